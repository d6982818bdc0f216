import PyProof.Rows.All
import PySem.Builtin.Re_Pattern.W2All
import PyProof.TableTree
import PyProof.FactsTree
import PyProof.RulesTry
import PyProof.MeetsSeq
import PyProof.DictKinds
import PyProof.DictItems
import PyProof.EqAt
import PyProof.ExcFactsAll.ValueError
import PyProof.ExcAttrAll.ValueError
import PyProof.ListRange
import PyProof.StrCalls2
import PyProof.Rows.Catch
import PyProof.Rows.CatchBare
import KE.KItem
import KE.KLcPair
import Wide.FinOn
import OpenK.AllK
import Wide.All
import PySem.Challenge.RW_pm0077_01
set_option Elab.async false
set_option autoImplicit false
set_option linter.unusedVariables false
set_option maxRecDepth 100000
set_option maxHeartbeats 8000000
set_option compiler.extract_closed false
section
namespace Lw
theorem om_1 : ∀ {a : Nat}, a ≤ (100000 : Nat) → (0 : Int) + (↑a : Int) ≤ (100000 : Int) := by intros; lia
theorem om_2 : ∀ {a : Int}, 0 ≤ a → 0 ≤ a + 1 := by intros; lia
theorem om_3 : ∀ {a : Int} {b : Nat}, a + ↑(b + 1) ≤ 100000 → a + 1 + ↑b ≤ 100000 := by intros; lia
theorem om_4 : ∀ {a : Nat}, a ≤ 100001 → a < 2 ^ 62 := by intros; lia
theorem om_5 : ∀ {a : Int} {b c : Nat}, b = c → ↑c ≤ a → ↑(c + Int.toNat (a - ↑c + 1)) = a + 1 := by intros; lia
theorem om_6 : ∀ {a : Int} {b c d : Nat}, b = c → ↑c ≤ a → ↑d = a + 1 → 0 ≤ a - ↑b + 1 := by intros; lia
theorem om_7 : ∀ {a : Int} {b c d e : Nat}, 0 ≤ a → b ≤ 100001 → a + ↑(c + 1) ≤ 100000 → d = b → ↑e = a + 1 → a - ↑d + 1 ≤ 1000000 := by intros; lia
theorem om_8 : ∀ {a : Int} {b c d e : Nat}, 0 ≤ a → a + ↑(b + 1) ≤ 100000 → c = d → ↑d ≤ a → ↑e = a + 1 → d + Int.toNat (a - ↑d + 1) ≤ 2 ^ 24 := by intros; lia
theorem om_9 : ∀ {a : Int} {b : Nat}, 0 ≤ a → ↑b = a + 1 → Int.toNat a < b := by intros; lia
theorem om_10 : ∀ {a : Int} {b c d : Nat}, a + ↑(b + 1) ≤ 100000 → ↑c = a + 1 → d = c → a < 2 ^ 63 := by intros; lia
theorem om_11 : ∀ {a : Int} {b c : Nat}, ↑b = a + 1 → c = b → a < ↑c := by intros; lia
theorem om_12 : ∀ {a : Int} {b c d : Nat}, (0 : Int) ≤ a → a + (↑(b + (1 : Nat)) : Int) ≤ (100000 : Int) → (↑c : Int) = a + (1 : Int) → d = c → (0 : Int) + (↑b : Int) ≤ (100000 : Int) := by intros; lia
theorem om_13 : ∀ {a : Int} {b c d : Nat}, a + ↑(b + 1) ≤ 100000 → ↑c = a + 1 → d = c → c ≤ 100001 := by intros; lia
theorem om_14 : ∀ {a : Int} {b c : Nat}, 0 ≤ a → b ≤ 100001 → c = b → ¬↑b ≤ a → Int.toNat a < b := by intros; lia
theorem om_15 : ∀ {a : Int} {b : Nat}, a + ↑(b + 1) ≤ 100000 → a < 2 ^ 63 := by intros; lia
theorem om_16 : ∀ {a : Int} {b c : Nat}, b = c → ¬↑c ≤ a → a < ↑b := by intros; lia
theorem om_17 : ∀ {a : Int} {b : Nat}, (0 : Int) ≤ a → a + (↑(b + (1 : Nat)) : Int) ≤ (100000 : Int) → (0 : Int) + (↑b : Int) ≤ (100000 : Int) := by intros; lia
theorem om_18 : ∀ {a : Int} {b : Nat}, a + ↑(b + 1) ≤ 100000 → a ≤ 100000 := by intros; lia
theorem om_20 : ∀ {a : Nat}, a ≤ 100001 → a ≤ 2 ^ 24 := by intros; lia
theorem om_21 : ∀ {a : Nat}, a ≤ 100000 → a ≤ 2 ^ 24 := by intros; lia
theorem om_22 : ∀ {a : Nat}, a ≤ 8 → Max.max (a + 1) (Max.max 0 0) + 1 ≤ 64 := by intros; lia
theorem om_23 : ∀ {a b : Nat}, a + 8 * 0 + 300 < b → a + 64 < b := by intros; lia
theorem om_24 : ∀ {a : Int}, 1 ≤ a → a ≤ 100 → Int.natAbs a < 4294967296 := by intros; lia
theorem om_25 : ∀ {a b : Int}, b ≤ a → 0 < Int.toNat (a - b) → Int.toNat (a - b) = Int.toNat (a - (b + 1)) + 1 := by intros; lia
theorem om_26 : ∀ {a b : Int} {c : Nat}, 1 ≤ a → a ≤ 100 → 1 ≤ b → b ≤ a → ↑c ≤ b → c ≤ 200 := by intros; lia
theorem om_27 : ∀ {a : Int}, 1 ≤ a → 0 ≤ a := by intros; lia
theorem om_28 : ∀ {a : Nat}, a ≤ 200 → a + (0 + 1) ≤ 16777216 := by intros; lia
theorem om_29 : ∀ {a : Int}, 1 ≤ a → 1 ≤ a + 1 := by intros; lia
theorem om_30 : ∀ {a b : Int}, b ≤ a → Int.toNat (a - b) = Int.toNat (a - (b + 1)) + 1 → b + 1 ≤ a := by intros; lia
theorem om_31 : ∀ {a : Int} {b : Nat}, ↑b ≤ a → ↑(b + (0 + 1)) ≤ a + 1 := by intros; lia
theorem om_32 : ∀ {a : Nat}, a ≤ 200 → a + 1 ≤ 16777216 := by intros; lia
theorem om_33 : ∀ {a : Nat}, a ≤ 200 → a ≤ 16777216 := by intros; lia
theorem om_34 : ∀ {a : Int} {b : Nat}, ↑b ≤ a → ↑b ≤ a + 1 := by intros; lia
theorem om_35 : ∀ {a b : Int}, 0 < Int.toNat (a - b) → Int.toNat (a - b) = Int.toNat (a - b) - 1 + 1 := by intros; lia
theorem om_36 : ∀ {a b : Nat}, a ≤ 100 → b = a → a < 2 ^ 62 := by intros; lia
theorem om_37 : ∀ {a b : Nat}, a ≤ (100 : Nat) → b = a → Int.natAbs (↑a : Int) < (4294967296 : Nat) := by intros; lia
theorem om_38 : (0 : Int) ≤ (500 : Int) * (0 : Int) := by intros; lia
theorem om_39 : ∀ {a : Int} {b c : Nat}, Int.toNat a < b → c ≤ 1 * 400 → c + 1 ≤ 401 := by intros; lia
theorem om_40 : ∀ {a : Int} {b : Nat}, 0 ≤ a → Int.toNat a < b → Int.toNat a + 1 = Int.toNat (a + 1) := by intros; lia
theorem om_41 : ∀ {a : Int}, 0 ≤ a → 0 ≤ a := by intros; lia
theorem om_42 : ∀ {a : Int} {b c : Nat}, b ≤ 100 → c = b → Int.toNat a < b → a < 2 ^ 63 := by intros; lia
theorem om_43 : ∀ {a b : Int} {c : Nat} {d : Int}, Int.toNat a < c → b = d → 0 ≤ b → b ≤ 400 → -2 ^ 63 ≤ b := by intros; lia
theorem om_44 : ∀ {a : Int} {b c : Nat}, Int.toNat a < b → c ≤ 1 * 400 → c + 1 ≤ 16777216 := by intros; lia
theorem om_45 : ∀ {a : Int} {b c d e : Nat}, b ≤ 100 → c = b → 0 ≤ a → ↑d ≤ 500 * a → Int.toNat a < b → e ≤ 401 → d + e ≤ 16777216 := by intros; lia
theorem om_46 : ∀ {a : Int} {b : Nat}, 0 ≤ a → Int.toNat a < b → 0 ≤ a + 1 := by intros; lia
theorem om_47 : ∀ {a : Int} {b c d : Nat}, ↑b ≤ 500 * a → Int.toNat a < c → d ≤ 401 → ↑(b + d) ≤ 500 * (a + 1) := by intros; lia
theorem om_48 : ∀ {a : Int} {b c d e : Nat}, b ≤ 100 → c = b → 0 ≤ a → ↑d ≤ 500 * a → Int.toNat a < b → e ≤ 401 → e + d ≤ 16777216 := by intros; lia
theorem om_49 : ∀ {a : Int} {b c d : Nat}, ↑b ≤ 500 * a → Int.toNat a < c → d ≤ 401 → ↑(d + b) ≤ 500 * (a + 1) := by intros; lia
theorem om_50 : ∀ {a b : Nat}, b < a → b + 1 < a + 1 := by intros; lia
theorem om_51 : ∀ {a : Int} {b : Nat}, a + 1 + ↑b = a + ↑(b + 1) := by intros; lia
theorem om_52 : ∀ {a b : Nat}, a ≤ 1000 → b = a → b < 2 ^ 62 := by intros; lia
theorem om_53 : ∀ {a b : Nat}, a ≤ (1000 : Nat) → b = a → Int.natAbs (↑b : Int) < (4294967296 : Nat) := by intros; lia
theorem om_54 : ∀ {a b : Nat} {c d : Int}, a < b → 0 ≤ c ∧ c ≤ 1000 → d = c → Int.natAbs c < 4294967296 := by intros; lia
theorem om_55 : ∀ {a b c : Nat}, b = c → a < c → (↑a : Int) < (↑b : Int) := by intros; lia
theorem om_56 : ∀ {a b : Nat}, a < b → ¬(↑a : Int) < (0 : Int) := by intros; lia
theorem om_57 : ∀ {a b : Nat}, a < b → -(2 : Int) ^ (63 : Nat) ≤ (↑a : Int) := by intros; lia
theorem om_58 : ∀ {a b c : Nat}, b ≤ (1000 : Nat) → c = b → a < b → (↑a : Int) < (2 : Int) ^ (63 : Nat) := by intros; lia
theorem om_59 : ∀ {a b : Nat}, a ≤ 1000 → b ≤ 1000000 → b + a ≤ 16777216 := by intros; lia
theorem om_60 : ∀ {a : Nat}, a ≤ 100000 → a ≤ 1000000 := by intros; lia
theorem om_61 : ∀ {a : Nat}, 1 + a = a + 1 := by intros; lia
theorem om_62 : ∀ {a b : Nat}, a ≤ 1000 → b = a → a + a * 0 ≤ 16777216 := by intros; lia
theorem om_63 : ∀ {a : Nat}, a < 177 → 177 - a = 177 - (a + 1) + 1 := by intros; lia
theorem om_64 : ∀ {a : Nat}, a ≤ 1000 → a ≤ 2 ^ 24 := by intros; lia
theorem om_65 : ∀ {a : Nat}, a ≤ 1000 → a ≤ 1000000 := by intros; lia
theorem om_66 : ∀ {a : Int}, 0 ≤ a ∧ a ≤ 1000 → ¬96 + a < 0 := by intros; lia
theorem om_67 : ∀ {a : Int}, 0 ≤ a ∧ a ≤ 1000 → ¬96 + a > 1114111 := by intros; lia
theorem om_68 : ∀ {a : Nat}, a ≤ 1000 → a ≤ 100000 := by intros; lia
theorem om_69 : ∀ {a : Nat}, a < (177 : Nat) → (↑a : Int) + (1 : Int) ≤ (↑(177 : Nat) : Int) := by intros; lia
theorem om_70 : ∀ {a b : Nat}, a ≤ 1 * 177 → b ≤ 90000 → b + a ≤ 90177 := by intros; lia
theorem om_71 : ∀ {a : Nat}, a < (177 : Nat) → -(2 : Int) ^ (63 : Nat) ≤ (↑a : Int) + (1 : Int) := by intros; lia
theorem om_72 : ∀ {a b : Nat}, a ≤ 1 * 177 → b ≤ 90000 → b + a ≤ 16777216 := by intros; lia
theorem om_73 : ∀ {a : Nat}, a ≤ 90177 → a + 2 ≤ 16777216 := by intros; lia
theorem om_74 : ∀ {a b : Nat}, a ≤ 1000 → b ≤ a → b + 1 ≤ 16777216 := by intros; lia
theorem om_75 : ∀ {a : Int}, 0 ≤ a → a < 4 → a = 0 ∨ a = 1 ∨ a = 2 ∨ a = 3 := by intros; lia
theorem om_76 : ∀ {a : Int}, 0 < a → ¬a = 0 := by intros; lia
theorem om_77 : ∀ {a : Nat}, a ≤ 8 → a + 1 ≤ 64 := by intros; lia
theorem om_78 : ∀ {a : Int}, 0 ≤ a ∧ a < 33 → Int.toNat a < 33 := by intros; lia
theorem om_79 : ∀ {a : Int}, 0 ≤ a ∧ a < 33 → a < 32 → Int.toNat a < 32 := by intros; lia
theorem om_80 : ∀ {a : Int}, 0 ≤ a ∧ a < 33 → ¬a < 32 → ¬Int.toNat a < 32 := by intros; lia
theorem om_81 : ∀ {a : Int}, 1 ≤ a → 1 * (1 + 1) ≤ 2 * a := by intros; lia
theorem om_82 : ∀ {a : Int} {b : Nat}, a + ↑(b + 1) = a + 1 + ↑b := by intros; lia
theorem om_83 : ∀ {a b c : Nat}, c = a → b + 0 = c → c ≤ b := by intros; lia
theorem om_84 : ∀ {a b c d : Nat}, d = a → c + (b + 1) = d → c < d := by intros; lia
theorem om_85 : ∀ {a b c d : Nat}, d = a → c + (b + 1) = d → c + 1 + b = d := by intros; lia
theorem om_86 : ∀ {a b : Nat}, b = a → 0 + a = b := by intros; lia
theorem om_87 : ∀ {a b : Nat}, a + 8 * 6 + 300 < b → a + 64 < b := by intros; lia
theorem om_88 : ∀ {a b : Int}, 0 ≤ b ∧ b < 15 → b + 1 = a → 1 ≤ a := by intros; lia
theorem om_89 : ∀ {a b : Int}, 0 ≤ b ∧ b < 15 → b + 1 = a → a ≤ 15 := by intros; lia
theorem om_90 : ∀ {a : Int}, 1 ≤ a → a ≤ 15 → a ≤ 100 := by intros; lia
theorem om_91 : ∀ {a b : Nat}, a ≤ 177 → b = a → b < 2 ^ 62 := by intros; lia
theorem om_92 : ∀ {a b c : Nat}, a = b → c = b + 1 → b < c := by intros; lia
theorem om_93 : ∀ {a b c : Nat}, a = b → c = b + (1 : Nat) → (↑b : Int) < (↑c : Int) := by intros; lia
theorem om_94 : ∀ {a b c : Nat}, a ≤ (177 : Nat) → b = a → c = a + (1 : Nat) → Int.natAbs (↑a : Int) < (4294967296 : Nat) := by intros; lia
theorem om_95 : ∀ {a b c d : Nat}, b = c → d = c + 1 → a < c → a < d := by intros; lia
theorem om_96 : ∀ {a b c d : Nat}, b = c → d = c + (1 : Nat) → a < c → (↑a : Int) < (↑d : Int) := by intros; lia
theorem om_97 : ∀ {a : Nat}, (0 : Int) ≤ (↑a : Int) := by intros; lia
theorem om_98 : ∀ {a b c d e : Nat}, c ≤ (177 : Nat) → a < c → d = c → e = c + (1 : Nat) → b < c → (↑b : Int) < (2 : Int) ^ (63 : Nat) := by intros; lia
theorem om_99 : ∀ {a b c : Nat}, a ≤ (177 : Nat) → b = a → c = a + (1 : Nat) → (0 : Int) ≤ (↑a : Int) := by intros; lia
theorem om_100 : ∀ {a b c : Nat}, a ≤ (177 : Nat) → b = a → c = a + (1 : Nat) → (↑a : Int) < (2 : Int) ^ (63 : Nat) := by intros; lia
theorem om_101 : ∀ {a b c : Nat}, a ≤ 177 → b = a → c = a + 1 → Int.toNat (↑a - 0) ≤ 2 ^ 24 := by intros; lia
theorem om_102 : ∀ {a b c d : Nat}, a < b → c = b → d = b + (1 : Nat) → (↑a : Int) < (↑b : Int) := by intros; lia
theorem om_103 : ∀ {a b c : Nat}, a ≤ 177 → b = a → c = a + 1 → a ≤ 100000 := by intros; lia
theorem om_104 : ∀ {a b c d : Nat}, b ≤ (177 : Nat) → a < b → c = b → d = b + (1 : Nat) → (↑a : Int) < (2 : Int) ^ (63 : Nat) := by intros; lia
theorem om_105 : ∀ {a : Int}, 0 ≤ a ∧ a < 33 → ¬a < 0 := by intros; lia
theorem om_106 : ∀ {a : Int}, 0 ≤ a ∧ a < 33 → ¬a > 1114111 := by intros; lia
theorem om_107 : ∀ {a b c : Nat}, a ≤ 177 → b = a → c = a + 1 → a + 1 ≤ 100000 := by intros; lia
theorem om_108 : ∀ {a b c d e : Nat}, b ≤ 177 → a < b → c = b → d = b + 1 → e ≤ 2 → b + e ≤ 100000 := by intros; lia
theorem om_109 : ∀ {a b c d e : Nat}, b ≤ 177 → a < b → c = b → d = b + 1 → e ≤ 2 → b + e ≤ 2 ^ 24 := by intros; lia
theorem om_110 : ∀ {a : Nat}, (0 : Int) ≤ (1 : Int) + (↑a : Int) := by intros; lia
theorem om_111 : ∀ {a : Nat}, a < Int.toNat (6 - 1) → Int.natAbs (1 + ↑a) ≤ 1000 := by intros; lia
theorem om_112 : ∀ {a : Int}, Int.natAbs a ≤ 1000 → Int.natAbs a < 4294967296 := by intros; lia
theorem om_113 : ∀ {a b c d : Nat}, b = c → d = c + 1 → a < c → c - a = c - (a + 1) + 1 := by intros; lia
theorem om_114 : ∀ {a : Nat}, a ≤ 1000 → a < 2 ^ 62 := by intros; lia
theorem om_115 : ∀ {a : Int} {b : Nat}, 1 ≤ a → a ≤ 5 → b ≤ 1000 → -1000000 ≤ a + 1 - ↑b := by intros; lia
theorem om_116 : ∀ {a : Int} {b : Nat}, 1 ≤ a → a ≤ 5 → b ≤ 1000 → a + 1 - ↑b ≤ 1000000 := by intros; lia
theorem om_117 : ∀ {a : Int} {b : Nat}, 1 ≤ a → a ≤ 5 → b ≤ 1000 → b + Int.toNat (a + 1 - ↑b) ≤ 2 ^ 24 := by intros; lia
theorem om_118 : ∀ {a b c : Nat}, b = c → a < c → (↑a : Int) < (↑c : Int) := by intros; lia
theorem om_119 : ∀ {a b : Nat}, a ≤ 1000 → b = a → Int.toNat (↑a - 0) ≤ 2 ^ 24 := by intros; lia
theorem om_120 : ∀ {a b c d e : Nat}, c ≤ 177 → a < c → d = c → e = c + 1 → b < c → b ≤ 2 ^ 24 := by intros; lia
theorem om_121 : ∀ {a b c d : Nat}, b = c → d = c + 1 → a ≤ c → c ≤ a → a = c := by intros; lia
theorem om_122 : ∀ {a b c d : Nat}, b = c → d = c + (1 : Nat) → a < c → (↑a : Int) < (↑c : Int) := by intros; lia
theorem om_123 : ∀ {a b c d : Nat}, b ≤ (177 : Nat) → a < b → c = b → d = b + (1 : Nat) → Int.natAbs (↑a : Int) < (4294967296 : Nat) := by intros; lia
theorem om_124 : ∀ {a b c d : Nat}, a < b → c = b → d = b + (1 : Nat) → (↑(Int.toNat ((↑b : Int) - (↑a : Int))) : Int) = (↑(b - a) : Int) := by intros; lia
theorem om_125 : ∀ {a b c d : Nat}, b ≤ 177 → a < b → c = b → d = b + 1 → b - a ≤ 2 ^ 24 := by intros; lia
theorem om_126 : ∀ {a : Int}, 1 ≤ a → a ≤ 5 → Int.natAbs (a + 2) < 4294967296 := by intros; lia
theorem om_127 : ∀ {a : Int}, a + 2 - 1 = a + 1 := by intros; lia
theorem om_128 : ∀ {a b : Nat}, a ≤ 1000 ∧ b ≤ 1000 → a + b ≤ 2 ^ 24 := by intros; lia
theorem om_129 : ∀ {a : Int}, 1 ≤ a → a ≤ 5 → Int.toNat (a + 2 - 1) ≤ 2 ^ 24 := by intros; lia
theorem om_130 : ∀ {a : Int}, 1 ≤ a → a ≤ 5 → Int.natAbs a ≤ 1000 := by intros; lia
theorem om_131 : ∀ {a : Int}, 1 ≤ a → a ≤ 5 → Int.natAbs (a + 1) ≤ 1000 := by intros; lia
theorem om_132 : ∀ {a : Int}, 1 ≤ a → a ≤ 5 → ¬8 * (a + 1) = 0 := by intros; lia
theorem om_133 : ∀ {a : Int}, Int.natAbs (a + 1) ≤ 1000 → Int.natAbs (a + 1) < 4294967296 := by intros; lia
theorem om_134 : ∀ {a : Int} {b c : Nat}, 1 ≤ a → a ≤ 5 → b < Int.toNat (a + 1) → ↑c = a + 1 → b < c := by intros; lia
theorem om_135 : ∀ {a : Int} {b c d : Nat}, ↑c = a + 1 → ↑d = a + 1 → b < c → b < d := by intros; lia
theorem om_136 : ∀ {a : Int} {b c d : Nat}, (↑c : Int) = a + (1 : Int) → (↑d : Int) = a + (1 : Int) → b < c → (↑b : Int) < (↑d : Int) := by intros; lia
theorem om_137 : ∀ {a b : Nat}, b ≤ (1000 : Nat) → (↑a : Int) < (↑b : Int) → Int.natAbs (↑a : Int) ≤ (1000 : Nat) := by intros; lia
theorem om_138 : ∀ {a b : Nat}, b ≤ (1000 : Nat) → (↑a : Int) < (↑b : Int) → (↑a : Int) < (2 : Int) ^ (63 : Nat) := by intros; lia
theorem om_139 : ∀ {a : Int}, 1 ≤ a → a ≤ 5 → Int.toNat (a + 1 - 0) ≤ 2 ^ 24 := by intros; lia
theorem om_140 : ∀ {a : Int} {b : Nat}, 1 ≤ a → a ≤ 5 → ↑b = a + 1 → b = Int.toNat (a + 1) := by intros; lia
theorem om_141 : ∀ {a b c : Nat}, a ≤ 177 → b = a → c = a + 1 → Int.natAbs (↑a + 1) < 4294967296 := by intros; lia
theorem om_143 : ∀ {a b c d : Nat}, b = c → d = c + 1 → a ≤ c → c + 1 - a = c + 1 - (a + 1) + 1 := by intros; lia
theorem om_144 : ∀ {a : Int}, 1 ≤ a → a ≤ 5 → Int.natAbs (8 * (a + 1)) < 1000 := by intros; lia
theorem om_145 : ∀ {a b : Nat}, a + (b + 1) ≤ 100 → a ≤ 2 ^ 24 := by intros; lia
theorem om_146 : ∀ {a b c : Nat}, a + (b + 1) ≤ 100 → c + (b + 1) ≤ 100 → c ≤ 2 ^ 24 := by intros; lia
theorem om_147 : ∀ {a b : Nat}, a + (b + 1) ≤ 100 → a + 1 + b ≤ 100 := by intros; lia
theorem om_148 : ∀ {a : Nat}, a ≤ 100 → a ≤ 2 ^ 24 := by intros; lia
theorem om_149 : ∀ {a b c d : Nat}, b = c → d = c + (1 : Nat) → (↑a : Int) < (↑c : Int) → a < c := by intros; lia
theorem om_150 : ∀ {a : Nat}, ¬(↑(63 : Nat) : Int) < (↑a : Int) → a ≤ (63 : Nat) := by intros; lia
theorem om_151 : ∀ {a b c : Nat}, b ≤ a → c + a < 990 → c + b < 990 := by intros; lia
theorem om_152 : ∀ {a b c d : Nat}, b ≤ a → c + 8 * a + 300 < d → c + 8 * b + 300 < d := by intros; lia
theorem om_153 : ∀ {a : Nat}, a ≤ 1000 → a + 1 ≤ 16777216 + 1 := by intros; lia
theorem om_154 : ∀ {a b : Nat}, b + (a + 1) < 990 → b + 1 + a < 990 := by intros; lia
theorem om_155 : ∀ {a b c d : Nat}, b + 8 * (a + 1) + 300 < c → d ≤ 8 → b + d + 8 * a + 300 < c := by intros; lia
theorem om_156 : ∀ {a : Nat}, a < (2 : Nat) ^ (62 : Nat) → ¬(↑a : Int) ≥ (2 : Int) ^ (63 : Nat) := by intros; lia
theorem om_157 : ∀ {a b : Nat}, a < (2 : Nat) ^ (62 : Nat) → b = a → (↑a : Int) < (2 : Int) ^ (63 : Nat) := by intros; lia
theorem om_158 : ∀ {a b c d : Nat}, a ≤ 1000000 → b ≤ 1000000 → c = a → d = b → c + d ≤ 16777216 := by intros; lia
theorem om_159 : ∀ {a b : Nat}, a ≤ 1000000 → b = a → a ≤ 16777216 := by intros; lia
theorem om_160 : ∀ {a b : Nat}, a ≤ 1000000 → b = a → Int.toNat (Max.max 0 ↑b) = b := by intros; lia
theorem om_161 : ∀ {a b : Nat}, a ≤ 1000000 → b = a → b ≤ 16777217 := by intros; lia
theorem om_162 : ∀ {a : Nat}, a + 1 ≤ 0 → False := by intros; lia
theorem om_163 : ∀ {a b : Nat}, a + 1 ≤ b + 1 → a ≤ b := by intros; lia
theorem om_164 : ∀ {a : Nat}, a ≤ 1000000 → Int.toNat (2 ^ 63 - 1) = 9223372036854775807 → a ≤ Int.toNat (2 ^ 63 - 1) := by intros; lia
theorem om_165 : ∀ {a b : Nat}, a = b → b ≤ a := by intros; lia
theorem om_166 : ∀ {a b : Nat}, a = b → a ≤ b := by intros; lia
theorem om_167 : ∀ {a b c d : Nat}, a + b ≤ a + (b + c + d) := by intros; lia
theorem om_168 : ∀ {a b c d : Nat}, a + 1 ≤ b → c = a → d = c + 1 → d ≤ b := by intros; lia
theorem om_169 : ∀ {a b c : Nat}, a = b → c = a + 1 → ¬c - 1 < c → False := by intros; lia
theorem om_170 : ∀ {a b c : Int}, Max.max b a ≤ c → b ≤ c := by intros; lia
theorem om_171 : ∀ {a b c : Int}, Max.max a b ≤ c → b ≤ c := by intros; lia
theorem om_172 : ∀ {a b c : Int}, c ≤ Min.min b a → c ≤ b := by intros; lia
theorem om_173 : ∀ {a b c : Int}, c ≤ Min.min a b → c ≤ b := by intros; lia
theorem om_174 : ∀ {a b : Nat}, 0 < a → b ≤ a - 1 → b < a := by intros; lia
theorem om_175 : ∀ {a b : Nat}, 0 < b → a < b → a ≤ b - 1 := by intros; lia
theorem om_176 : ∀ {a b : Nat}, b + 1 < a + 1 → b < a := by intros; lia
theorem om_177 : ∀ {a b : Int} {c : Nat}, b + a + ↑c * a = b + (↑c * a + 1 * a) := by intros; lia
theorem om_178 : ∀ {a b : Nat}, b + (a + 1) < 990 → b < 1000 := by intros; lia
theorem om_179 : ∀ {a b c : Nat}, b + 8 * (a + 1) + 300 < c → b + 3 + 8 * a + 300 < c := by intros; lia
theorem om_180 : ∀ {a : Int}, -1000000 ≤ a → a ≤ 1000000 → -9223372036854775808 ≤ a ∧ a < 9223372036854775808 := by intros; lia
theorem om_181 : ∀ {a : Int}, -1000000 ≤ a → a ≤ 1000000 → ¬1 * Int.toNat a > (2 ^ 63 - 1) / 8 := by intros; lia
theorem om_182 : ∀ {a : Int}, -1000000 ≤ a → a ≤ 1000000 → a ≤ 16777216 := by intros; lia
theorem om_183 : ∀ {a : Int}, 0 ≤ a → a ≤ 1000000 → -9223372036854775808 ≤ a ∧ a < 9223372036854775808 := by intros; lia
theorem om_184 : ∀ {a : Int}, 0 ≤ a → a ≤ 1000000 → ¬1 * Int.toNat a > (2 ^ 63 - 1) / 8 := by intros; lia
theorem om_185 : ∀ {a : Int}, 0 ≤ a → a ≤ 1000000 → a ≤ 16777216 := by intros; lia
theorem om_186 : ∀ {a : Nat}, (0 : Int) < (↑(a + (1 : Nat)) : Int) := by intros; lia
theorem om_187 : ∀ {a : Nat}, (↑(a + (1 : Nat)) : Int) - (1 : Int) = (↑a : Int) := by intros; lia
theorem om_188 : (↑(0 : Nat) : Int) ≤ (0 : Int) := by intros; lia
theorem om_189 : ∀ {a b c : Nat}, a + b = c → b < c → a - 1 < a := by intros; lia
theorem om_190 : ∀ {a b c : Nat}, a + b = c → b < c → a - 1 + (b + 1) = c := by intros; lia
theorem om_191 : ∀ {a b : Nat}, a ≤ a + b := by intros; lia
theorem om_192 : ∀ {a : Nat}, 31 < a → 31 < a := by intros; lia
theorem om_193 : ∀ {a : Nat} {b : Int}, b + 1 + ↑a = b + ↑(a + 1) := by intros; lia
theorem om_194 : ∀ {a : Int}, a < 1 → Int.toNat a = 0 := by intros; lia
theorem om_195 : ∀ {a b : Nat}, (↑b : Int) ≤ (↑a : Int) → b + Int.toNat ((↑a : Int) - (↑b : Int) + (1 : Int)) = Max.max b (a + (1 : Nat)) := by intros; lia
theorem om_196 : ∀ {a b : Nat}, ¬(↑b : Int) ≤ (↑a : Int) → b = Max.max b (a + (1 : Nat)) := by intros; lia
theorem om_197 : ∀ {a b : Nat}, ¬a < b → b ≤ a := by intros; lia
theorem om_198 : ∀ {a b c : Nat}, b = Max.max c (a + 1) → a < b := by intros; lia
theorem om_199 : ∀ {a b c : Nat}, Max.max (Max.max c (b + 1)) (a + 1) = Max.max (Max.max c (a + 1)) (b + 1) := Nat.max_right_comm ..
theorem om_200 : ∀ {a b c : Int}, a + b + c = a + c + b := Int.add_right_comm ..
theorem om_201 : ∀ {a : Nat} {b : Int} {c : Nat}, b + ↑a + 1 + ↑c = b + ↑(a + 1 + c) := by intros; lia
theorem om_202 : ∀ {a : Nat}, Int.toNat (↑a + 1) = a + 1 := by intros; lia
theorem om_203 : ∀ {a : Nat}, (0 : Int) + (↑(a + (1 : Nat)) : Int) = (↑a : Int) + (1 : Int) := by intros; lia
theorem om_204 : ∀ {a : Nat}, a < 128 → a = 931 → False := by intros; lia
theorem om_205 : ∀ {a : Nat}, Int.toNat (96 + ↑a) = 96 + a := by intros; lia
theorem om_206 : ∀ {a : Nat}, 1 ≤ a ∧ a ≤ 15 → 96 + a < 128 := by intros; lia
theorem om_207 : ∀ {a : Nat}, 1 ≤ a ∧ a ≤ 15 → 97 ≤ 96 + a ∧ 96 + a ≤ 122 := by intros; lia
theorem om_208 : ∀ {a : Nat}, 1 ≤ a ∧ a ≤ 15 → 96 + a - 32 = 64 + a := by intros; lia
theorem om_209 : ∀ {a : Nat}, 1 ≤ a ∧ a ≤ 15 → 64 < 64 + a ∧ 64 + a < 127 := by intros; lia
theorem om_210 : ∀ {a : Nat}, 1 ≤ a ∧ a ≤ 15 → 64 < 96 + a ∧ 96 + a < 127 := by intros; lia
theorem om_211 : ∀ {a : Nat}, 64 < a ∧ a < 127 → a < 128 := by intros; lia
theorem om_212 : ∀ {a : Nat}, 1 ≤ a ∧ a ≤ 15 → 65 ≤ 64 + a ∧ 64 + a ≤ 90 := by intros; lia
theorem om_213 : ∀ {a : Nat}, 64 + a + 32 = 96 + a := by intros; lia
theorem om_214 : ∀ {a : Nat}, 1 ≤ a ∧ a ≤ 15 → ¬(65 ≤ 96 + a ∧ 96 + a ≤ 90) := by intros; lia
theorem om_215 : ∀ {a : Nat}, 1 ≤ a ∧ a ≤ 15 → ¬(97 ≤ 64 + a ∧ 64 + a ≤ 122) := by intros; lia
theorem om_216 : ∀ {a : Nat}, 1 ≤ a ∧ a ≤ 15 → 64 + a < 128 := by intros; lia
theorem om_217 : ∀ {a : Nat}, 64 < a ∧ a < 127 → 31 < a := by intros; lia
theorem om_218 : ∀ {a : Nat}, 64 < a ∧ a < 127 → ¬a = 127 := by intros; lia
theorem om_219 : ∀ {a : Nat}, 64 < a ∧ a < 127 → a < 1114112 := by intros; lia
theorem om_220 : ∀ {a b : Nat}, ¬b ≤ a → a ≤ b := by intros; lia
theorem om_221 : ∀ {a b c d : Nat}, 1 ≤ c → a + d = b → c ≤ a → ¬b = 0 := by intros; lia
theorem om_222 : ∀ {a b c d : Nat}, a + d = b → c ≤ a → a < c + (b + 1 - c) := by intros; lia
theorem om_223 : ∀ {a b c d : Nat}, 1 ≤ c → a + d = b → c ≤ a → 1 ≤ a := by intros; lia
theorem om_224 : ∀ {a b c : Nat}, a + c = b → c = b - a := by intros; lia
theorem om_225 : ∀ {a b : Nat}, b + 1 ≤ a + 1 → b ≤ a := by intros; lia
theorem om_226 : ∀ {a : Nat} {b c : Int}, c + b + 1 + ↑a = c + b + ↑(a + 1) := by intros; lia
theorem om_227 : ∀ {a : Nat} {b c : Int}, c + (b + 1) + ↑a = c + b + ↑(a + 1) := by intros; lia
theorem om_228 : ∀ {a b : Int}, 1 ≤ a → ↑(Int.toNat a) + b = a + b := by intros; lia
theorem om_229 : ∀ {a b c : Nat}, 1 ≤ a → b ≤ c → b + 1 ≤ a + c := by intros; lia
theorem om_230 : ∀ {a b : Nat}, (1 : Nat) ≤ a → (↑b : Int) = (0 : Int) + (1 : Int) + (↑(Int.toNat ((↑a : Int) - (1 : Int))) : Int) → b = a := by intros; lia
theorem om_231 : ∀ {a : Int}, 1 ≤ a → 1 ≤ Int.toNat a := by intros; lia
theorem om_232 : ∀ {a b c : Nat}, b = a → c ≤ b → c ≤ a := by intros; lia
theorem om_233 : ∀ {a b : Nat}, ¬(b ≤ a ∧ a < b + 0) := by intros; lia
theorem om_234 : ∀ {a b : Nat}, a + 1 ≤ b → a ≤ b := by intros; lia
theorem om_235 : ∀ {a b c : Nat}, c < b + 1 + a → c < b + (a + 1) := by intros; lia
theorem om_236 : ∀ {a b : Nat}, b < b + (a + 1) := by intros; lia
theorem om_237 : ∀ {a b : Nat}, ¬(b + 1 ≤ b ∧ b < b + 1 + a) := by intros; lia
theorem om_238 : ∀ {a b : Nat}, b ≤ b ∧ b < b + (a + 1) := by intros; lia
theorem om_239 : ∀ {a b c : Nat}, c + 1 ≤ a ∧ a < c + 1 + b → c ≤ a ∧ a < c + (b + 1) := by intros; lia
theorem om_240 : ∀ {a b c : Nat}, ¬c = a → ¬(c + 1 ≤ a ∧ a < c + 1 + b) → ¬(c ≤ a ∧ a < c + (b + 1)) := by intros; lia
theorem om_241 : ∀ {a b : Nat}, b < 0 + a → b < a := by intros; lia
theorem om_242 : ∀ {a b : Nat}, b < a → 0 ≤ b ∧ b < 0 + a := by intros; lia
theorem om_243 : ∀ {a b c : Nat}, a + 1 + (b + c) = a + b + (c + 1) := by intros; lia
theorem om_244 : ∀ {a : Nat}, (1 : Nat) < a → (1 : Int) < (↑a : Int) := by intros; lia
theorem om_245 : ∀ {a : Nat}, 1 < a → Int.toNat (↑a - 1) = a - 1 := by intros; lia
theorem om_246 : ∀ {a : Nat}, ¬(1 : Nat) < a → ¬(↑a : Int) > (1 : Int) := by intros; lia
theorem om_247 : ∀ {a : Nat}, a ≤ 100 → a ≤ 1000 := by intros; lia
theorem om_248 : ∀ {a b : Nat}, b + 1 ≤ a → b < a := by intros; lia
theorem om_249 : ∀ {a : Int}, 1 < a → 0 ≤ a - 1 := by intros; lia
theorem om_250 : ∀ {a b : Nat}, (↑a : Int) = (↑b : Int) → a = b := by intros; lia
theorem om_251 : ∀ {a b : Nat}, b + 1 ≤ a → b ≤ a := by intros; lia
theorem om_252 : ∀ {a b : Nat} {c : Int}, b + 1 ≤ a → c = ↑b + 1 → b ≤ a := by intros; lia
theorem om_253 : ∀ {a b c : Nat}, a ≤ 15 → b ≤ 15 * c → a + b ≤ 15 * (c + 1) := by intros; lia
theorem om_254 : ∀ {a b : Nat}, a ≤ 15 → b ≤ 15 * a → b ≤ 225 := by intros; lia
theorem om_255 : ∀ {a b : Nat} {c : Int} {d e : Nat}, b + 1 ≤ a → c = ↑b + 1 → a ≤ 170 → d ≤ 15 → e ≤ 225 → e + d + (b + 1 + 2) ≤ 1000 := by intros; lia
theorem om_256 : ∀ {a b : Nat}, a ≤ 15 * b → b ≤ 15 → a ≤ 225 := by intros; lia
theorem om_257 : ∀ {a b c : Nat}, b ≤ a + 1 → c < b → c ≤ a := by intros; lia
theorem om_258 : ∀ {a : Int}, Int.toNat a ≤ 15 → a ≤ 400 := by intros; lia
theorem om_259 : ∀ {a : Nat}, (1 : Nat) ≤ a ∧ a ≤ (15 : Nat) → (0 : Int) ≤ (↑a : Int) ∧ (↑a : Int) ≤ (1000 : Int) := by intros; lia
theorem om_260 : ∀ {a : Nat}, a ≤ 15 → a ≤ 1000 := by intros; lia
theorem om_261 : ∀ {a b : Nat}, b ≤ a → b ≤ a + 1 := by intros; lia
theorem om_262 : ∀ {a b : Nat}, a < b → b = a + (b - (a + 1) + 1) := by intros; lia
theorem om_263 : ∀ {a b : Nat}, b < a → b ≤ a := by intros; lia
theorem om_264 : ∀ {a b : Nat}, b + 0 = a → b = a := by intros; lia
theorem om_265 : ∀ {a b : Nat}, a < b → a ≤ b := by intros; lia
theorem om_266 : ∀ {a b : Nat}, a < b → (↑b : Int) = (↑a : Int) → False := by intros; lia
theorem om_267 : ∀ {a b c : Nat}, c + (b + 1) = a → c < a := by intros; lia
theorem om_268 : ∀ {a b c : Nat}, c + (b + 1) = a → c < a → c ≤ a := by intros; lia
theorem om_269 : ∀ {a b c : Nat}, c + (b + 1) = a → c + 1 + b = a := by intros; lia
theorem om_270 : ∀ {a : Nat}, 1 ≤ a → a ≤ 15 → a = 1 ∨ a = 2 ∨ a = 3 ∨ a = 4 ∨ a = 5 ∨ a = 6 ∨ a = 7 ∨ a = 8 ∨ a = 9 ∨ a = 10 ∨ a = 11 ∨ a = 12 ∨ a = 13 ∨ a = 14 ∨ a = 15 := by intros; lia
theorem om_271 : ∀ {a b : Nat}, a + 1 + b = a + (b + 1) := by intros; lia
theorem om_272 : ∀ {a b : Nat}, a + 1 < b → a < b - 1 := by intros; lia
theorem om_273 : ∀ {a b : Nat}, a + 1 < b → a < b := by intros; lia
theorem om_274 : ∀ {a b c : Nat}, a < 0 → ¬b = c := by intros; lia
theorem om_275 : ∀ {a b : Nat}, b + 0 - Max.max b a = 0 := by intros; lia
theorem om_276 : ∀ {a b : Nat}, a ≤ b → Max.max (b + 1) a = b + 1 := by intros; lia
theorem om_277 : ∀ {a b : Nat}, a ≤ b → Max.max b a = b := by intros; lia
theorem om_278 : ∀ {a b : Nat}, b + (a + 1) - b = b + 1 + a - (b + 1) + 1 := by intros; lia
theorem om_279 : ∀ {a b : Nat}, ¬a ≤ b → Max.max (b + 1) a = a := by intros; lia
theorem om_280 : ∀ {a b : Nat}, ¬a ≤ b → Max.max b a = a := by intros; lia
theorem om_281 : ∀ {a b c : Nat}, c + 1 + b - a = c + (b + 1) - a := by intros; lia
theorem om_282 : ∀ {a b c : Nat}, b + (a + 1) < c → b + 1 < c := by intros; lia
theorem om_283 : ∀ {a b c : Nat}, b + (a + 1) < c → b + 1 + a < c := by intros; lia
theorem om_284 : ∀ {a b : Nat}, b + 1 + a = b + (a + 1) := by intros; lia
theorem om_285 : ∀ {a b : Nat}, a + 1 < b → b ≤ 100 → b = b - 1 + 1 := by intros; lia
theorem om_286 : ∀ {a b c : Nat}, c = a + 1 → b < a → b + 1 < c := by intros; lia
theorem om_287 : ∀ {a b c : Nat}, a + 1 ≤ 100 → c = a + 1 → b ≤ a → a ≤ b → b = a + 1 - 1 := by intros; lia
theorem om_288 : ∀ {a b c d : Nat}, a + 1 < b + 1 → d = b + 1 → c ≤ b → b ≤ c → a + 1 < d := by intros; lia
theorem om_289 : ∀ {a b c : Nat}, c = a + 1 → b ≤ a → b < c := by intros; lia
theorem om_290 : ∀ {a b c : Nat}, a + 1 < b + 1 → c = b + 1 → a ≤ b := by intros; lia
theorem om_291 : ∀ {a b c : Nat}, a + 1 < b + 1 → c = b + 1 → a < b := by intros; lia
theorem om_292 : ∀ {a b : Nat}, a + 1 ≤ 100 → b = a + 1 → a ≤ 170 := by intros; lia
theorem om_293 : ∀ {a b : Nat}, a + 1 ≤ 100 → b = a + 1 → 0 ≤ a := by intros; lia
theorem om_294 : ∀ {a b c : Nat}, c = a + 1 → b < a → b + 1 ≤ a := by intros; lia
theorem om_295 : ∀ {a b c : Nat}, c = a + 1 → b < a → b ≤ a := by intros; lia
theorem om_296 : ∀ {a b c d : Nat}, d = a + 1 → b < a → c < b → c ≤ a := by intros; lia
theorem om_297 : ∀ {a : Nat}, a ≤ a := by intros; lia
theorem om_298 : ∀ {a b : Nat}, b ≤ a * a - a → (↑a : Int) * (↑a : Int) - (↑a : Int) < (↑b : Int) → (↑(a * a - a) : Int) = (↑a : Int) * (↑a : Int) - (↑a : Int) → False := by intros; lia
theorem om_299 : ∀ {a b c d : Nat}, a + 1 < b + 1 → d = b + 1 → c ≤ b - a → a + c ≤ b := by intros; lia
theorem om_300 : ∀ {a b c : Nat}, a + 1 < b + 1 → c = b + 1 → a + 1 < c := by intros; lia
theorem om_301 : ∀ {a b c d : Nat}, a + 1 < b + 1 → d = b + 1 → c + 1 ≤ b - a → a + 1 + c < d := by intros; lia
theorem om_302 : 0 ≤ 64 := by intros; lia
theorem om_303 : ∀ {a : Nat}, a < 32 → a + 1 ≤ 64 := by intros; lia
theorem om_304 : ∀ {a : Nat}, a < 1000000 → a + 1 ≤ 2 ^ 24 := by intros; lia
theorem om_305 : ∀ {a b : Int}, a < b → b - a - 1 + 1 = ↑(Int.toNat (b - a)) := by intros; lia
theorem om_306 : ∀ {a b : Int}, ¬a < b → (0 : Int) = (↑(Int.toNat (b - a)) : Int) := by intros; lia
theorem om_307 : ∀ {a : Int}, Int.natAbs a < 4294967296 → -9223372036854775808 ≤ a ∧ a < 9223372036854775808 := by intros; lia
theorem om_308 : ∀ {a : Int}, 0 < a → 0 ≤ a := by intros; lia
theorem om_309 : ∀ {a b : Int}, 0 ≤ a → a < 2147483648 → 0 ≤ a / b → a / b ≤ a → Int.natAbs (a / b) < 4294967296 := by intros; lia
theorem om_310 : ∀ {a b : Nat}, a ≤ 8 → b ≤ 8 → Max.max a b ≤ 8 := by intros; lia
theorem om_313 : ∀ {a : Nat}, 1 ≤ a → a ≤ 5 → a = 1 ∨ a = 2 ∨ a = 3 ∨ a = 4 ∨ a = 5 := by intros; lia
theorem om_314 : ∀ {a : Nat}, a < 4 → a = 0 ∨ a = 1 ∨ a = 2 ∨ a = 3 := by intros; lia
theorem om_315 : ∀ {a b c : Nat}, (b + c) % (a + 1) < a + 1 → ¬(b + c) % (a + 1) = a → (b + c) % (a + 1) + 1 < a + 1 := by intros; lia
theorem om_316 : ∀ {a b : Nat}, ¬b = a → b < a + 1 → b + 1 < a + 1 := by intros; lia
theorem om_317 : ∀ {a b c : Nat}, 8 * c = 8 * (a + 1) * (c / (a + 1)) + 8 * (c % (a + 1)) → 8 * c + b = 8 * (c % (a + 1)) + b + 8 * (a + 1) * (c / (a + 1)) := by intros; lia
theorem om_318 : ∀ {a b c : Nat}, b < 8 → c % (a + 1) < a + 1 → 8 * (c % (a + 1)) + b < 8 * (a + 1) := by intros; lia
theorem om_319 : ∀ {a : Nat}, (1 : Nat) ≤ a → a ≤ (5 : Nat) → (0 : Int) ≤ (8 : Int) * ((↑a : Int) + (1 : Int)) := by intros; lia
theorem om_320 : ∀ {a : Nat}, (8 : Int) * ((↑a : Int) + (1 : Int)) = (↑((8 : Nat) * (a + (1 : Nat))) : Int) := by intros; lia
theorem om_321 : ∀ {a b : Nat}, (↑((8 : Nat) * b + a) : Int) + (8 : Int) = (↑((8 : Nat) * (b + (1 : Nat)) + a) : Int) := by intros; lia
theorem om_322 : ∀ {a : Nat} {b : Int} {c d : Nat}, a < (8 : Nat) → b = (↑((8 : Nat) * c + a) : Int) → (↑((8 : Nat) * c + a) : Int) + (8 : Int) = (↑d : Int) → (↑((8 : Nat) * c + a) : Int) / (8 : Int) = (↑c : Int) := by intros; lia
theorem om_323 : ∀ {a : Nat} {b : Int} {c d : Nat} {e : Int}, a < (8 : Nat) → b = (↑((8 : Nat) * c + a) : Int) → (↑((8 : Nat) * c + a) : Int) + (8 : Int) = (↑d : Int) → e = (↑c : Int) → (↑((8 : Nat) * c + a) : Int) % (8 : Int) = (↑a : Int) := by intros; lia
theorem om_324 : ∀ {a : Nat} {b : Int} {c : Nat}, b = (↑c : Int) → ¬c = a → ¬(↑c : Int) = (↑a : Int) := by intros; lia
theorem om_325 : ∀ {a b : Nat}, (↑a : Int) - (↑(0 : Nat) : Int) + (↑b : Int) + (1 : Int) = (↑a : Int) - (↑a : Int) + (↑b : Int) + (1 : Int) + (↑a : Int) := by intros; lia
theorem om_326 : ∀ {a b c : Nat}, (↑a : Int) - (↑(b + (1 : Nat)) : Int) + (↑c : Int) + (1 : Int) = (↑a : Int) - (↑b : Int) + (↑c : Int) + (1 : Int) + (-1 : Int) := by intros; lia
theorem om_327 : ∀ {a b : Nat} {c : Int} {d : Nat}, b < a + (1 : Nat) → c = (↑b : Int) → (↑a : Int) - (↑b : Int) + (↑d : Int) + (1 : Int) = (↑(a - b + d) : Int) + (1 : Int) := by intros; lia
theorem om_328 : ∀ {a : Nat}, 1 ≤ a → a ≤ 5 → a - 1 < 5 := by intros; lia
theorem om_329 : ∀ {a b c : Nat} {d e : Int}, 1 ≤ a → a ≤ 5 → b < a + 1 → c < 2 → d = ↑b → e = ↑(a - b + c) + 1 → a - b + c < 8 := by intros; lia
theorem om_330 : ∀ {a : Nat} {b : Int} {c : Nat}, (1 : Nat) ≤ a → a ≤ (5 : Nat) → b = (↑c : Int) → c = a → (↑(a - (1 : Nat)) : Int) + (1 : Int) = (↑a : Int) := by intros; lia
theorem om_331 : ∀ {a : Nat}, (0 : Nat) < a → (0 : Int) < (↑a : Int) := by intros; lia
theorem om_332 : ∀ {a : Nat}, ¬(0 : Nat) < a → ¬(↑a : Int) > (0 : Int) := by intros; lia
theorem om_333 : ∀ {a b c : Nat}, b < a + (1 : Nat) → (↑a : Int) - (↑b : Int) + (↑c : Int) + (1 : Int) - (1 : Int) = (↑(a - b + c) : Int) := by intros; lia
theorem om_334 : ∀ {a b c : Nat}, b + c + 0 = a + 1 → b + c = a + 1 := by intros; lia
theorem om_335 : ∀ {a b c d : Nat}, b + d + (c + 1) = a + 1 → b + d ≤ a := by intros; lia
theorem om_336 : ∀ {a b c d : Nat}, b + d + (c + 1) = a + 1 → b < a → d ≤ a - b := by intros; lia
theorem om_337 : ∀ {a b : Nat}, a = b → b ≤ 15 → a ≤ 100 := by intros; lia
theorem om_338 : ∀ {a b c d : Nat}, b + d + (c + 1) = a + 1 → b + (d + 1) + c = a + 1 := by intros; lia
theorem om_339 : ∀ {a : Nat}, 1 ≤ a → a ≤ 5 → a + 1 ≤ 100 := by intros; lia
theorem om_340 : ∀ {a : Int}, 0 < a → 1 ≤ Int.toNat a ∧ Int.toNat a ≤ 15 → 0 ≤ a ∧ a ≤ 400 := by intros; lia
theorem om_341 : ∀ {a b c : Nat}, a = b → b ≤ 15 → c ≤ 225 → c + b ≤ 90000 := by intros; lia
theorem om_342 : ∀ {a b : Nat}, b < a → b < a + 1 := by intros; lia
theorem om_343 : ∀ {a b c d : Nat}, b + d + (c + 1) = a + 1 → b + d ≤ a → ¬b + d < a → b + d = a := by intros; lia
theorem om_344 : ∀ {a : Nat}, 1 ≤ a → a ≤ 15 → a - 1 < 15 := by intros; lia
theorem om_345 : ∀ {a : Nat}, 1 ≤ a → a ≤ 15 → a - 1 + 1 = a := by intros; lia
theorem om_346 : ∀ {a : Nat}, 96 + a = 122 → 1 ≤ a ∧ a ≤ 15 → False := by intros; lia
theorem om_347 : ∀ {a b : Nat}, (↑((8 : Nat) * b + a) : Int) = (8 : Int) * (↑b : Int) + (↑a : Int) := by intros; lia
theorem om_348 : ∀ {a : Nat}, (↑(a + (1 : Nat)) : Int) = (↑a : Int) + (1 : Int) := by intros; lia
theorem om_349 : ∀ {a : Int}, 1 ≤ a → a ≤ 15 → a = ↑(Int.toNat a) := by intros; lia
theorem om_350 : ∀ {a : Nat}, (1 : Int) ≤ (↑a : Int) → (↑a : Int) ≤ (15 : Int) → (1 : Nat) ≤ a := by intros; lia
theorem om_351 : ∀ {a : Nat}, (1 : Int) ≤ (↑a : Int) → (↑a : Int) ≤ (15 : Int) → a ≤ (15 : Nat) := by intros; lia
theorem om_352 : ∀ {a : Int}, 1 ≤ a → a ≤ 5 → ↑(Int.toNat a) = a := by intros; lia
theorem om_353 : ∀ {a : Nat} {b : Int}, 1 ≤ b → b ≤ 5 → ↑a = b → 1 ≤ a := by intros; lia
theorem om_354 : ∀ {a : Nat} {b : Int}, 1 ≤ b → b ≤ 5 → ↑a = b → a ≤ 5 := by intros; lia
theorem om_355 : ∀ {a : Int}, 0 ≤ a → a = ↑(Int.toNat a) := by intros; lia
theorem om_356 : ∀ {a : Nat} {b : Int}, b = ↑a → b < 4 → a < 4 := by intros; lia
theorem om_357 : ∀ {a : Nat} {b : Int}, b = ↑a → b < 8 → a < 8 := by intros; lia
theorem om_358 : ∀ {a b c : Nat}, c = a → b ≤ a → b < a + 1 := by intros; lia
theorem om_359 : ∀ {a : Nat} {b : Int}, 1 ≤ b → b ≤ 5 → ↑a = b → Int.toNat (↑a + 1) = a + 1 := by intros; lia
theorem om_360 : ∀ {a b : Nat}, a ≤ 170 → b = a → a ≤ 177 := by intros; lia
theorem om_361 : ∀ {a : Nat} {b : Int}, (1 : Int) ≤ b → b ≤ (5 : Int) → (↑a : Int) = b → Int.toNat ((↑a : Int) + (1 : Int)) = a + (1 : Nat) → (1 : Int) ≤ (↑a : Int) := by intros; lia
theorem om_362 : ∀ {a : Nat} {b : Int}, (1 : Int) ≤ b → b ≤ (5 : Int) → (↑a : Int) = b → Int.toNat ((↑a : Int) + (1 : Int)) = a + (1 : Nat) → (↑a : Int) ≤ (5 : Int) := by intros; lia
theorem om_363 : ∀ {a : Nat}, 0 + a = a := by intros; lia
theorem om_364 : ∀ {a b c : Nat}, c = a → b < a → b ≤ a := by intros; lia
theorem om_365 : ∀ {a : Nat}, a ≤ a + 1 := by intros; lia
theorem om_366 : ∀ {a : Nat}, a = 9 ∨ a = 32 ∨ a = 120 → a < 1114112 := by intros; lia
theorem om_367 : ∀ {a b : Nat}, 1 ≤ a → b = a → b = 0 → False := by intros; lia
theorem om_368 : ∀ {a b : Nat}, (↑(a + b) : Int) - (↑b : Int) = (↑a : Int) := by intros; lia
theorem om_369 : ∀ {a b : Int}, Int.natAbs a < 4294967296 → Int.natAbs b < 4294967296 → -2 ^ 63 ≤ a := by intros; lia
theorem om_370 : ∀ {a b : Int}, Int.natAbs a < 4294967296 → Int.natAbs b < 4294967296 → a < 2 ^ 63 := by intros; lia
theorem om_371 : ∀ {a : Int}, Int.natAbs a < 4294967296 → -2 ^ 63 ≤ a := by intros; lia
theorem om_372 : ∀ {a : Int}, Int.natAbs a < 4294967296 → a < 2 ^ 63 := by intros; lia
theorem om_373 : -2 ^ 63 ≤ 1 := by intros; lia
theorem om_374 : (1 : Int) < (2 : Int) ^ (63 : Nat) := by intros; lia
theorem om_375 : ∀ {a b : Int}, -(2 : Int) ^ (63 : Nat) ≤ (↑(Int.toNat (b - a)) : Int) := by intros; lia
theorem om_376 : ∀ {a b : Int}, Int.natAbs a < (4294967296 : Nat) → Int.natAbs b < (4294967296 : Nat) → (↑(Int.toNat (b - a)) : Int) < (2 : Int) ^ (63 : Nat) := by intros; lia
end Lw
end
section
open PySem PySem.W PyProof.Rows
namespace Lw
noncomputable def keptAt : List Nat → Nat → List Stmt → List Stmt
  | _, _, [] => []
  | ks, i, s :: r => bif ks.contains i then s :: keptAt ks (i + 1) r else keptAt ks (i + 1) r
noncomputable def view : Program := { PySem.Challenge.rw_pm0077_01.row.prog with main := { PySem.Challenge.rw_pm0077_01.row.prog.main with body := keptAt [0, 1, 3, 4, 5, 7, 9, 10, 12, 14, 15, 16, 17, 18, 19] 0 PySem.Challenge.rw_pm0077_01.row.prog.main.body } }
noncomputable def Part (p q : Program) (loose : List Str) (Xt : Shared → Bool) {α : Type} (Yf : Shared → α) (Ya : World → α) (N : Nat) (row : String) (b : Bool) : Prop :=
  ∀ w : World, (openEnds treeTable p (w.withFollow row b) N).map (fun s => (openSeen q loose (importedModules p.main.body) Xt true s, Yf s)) = some (openGood q loose, Ya (w.withFollow row b))
theorem holdsParts {r : OpenRow} {q : Program} {loose : List Str} {Xt : Shared → Bool} {XP : (Str → Option Value) → Heap → Prop} {α : Type} {Yf : Shared → α} {Ya : World → α} {YP : World → Heap → Prop} {d : DefRec} {kwd : List (Str × Expr)} {N : Nat} (row : String)
    (hY : ∀ w s, Yf s = Ya w → YP w s.heap) (hYk : ∀ w h h', YP w h → (∀ b o, h.get? b = some o → h'.get? b = some o) → YP w h')
    (hX : ∀ s, Xt s = true → XP (s.heap.nsMap mainGlobals) s.heap) (hXk : ∀ mg h h', XP mg h → (∀ b o, h.get? b = some o → h'.get? b = some o) → XP mg h')
    (hdef : defOf q r.name = some (d, kwd)) (hp : r.prog.theDef r.name = some (d.params, d.body, d.scope)) (hk : kwWritten? d.params.kwonlyargs d.params.kw_defaults = some kwd) (hRf : ∀ s, Xt s = true → RecFacts r.records s.heap) (hwr : (!r.writes || r.records.isEmpty) = true)
    (k1 : r.wellSaid = true) (ok : (chainsOk q && opensWell r.prog && (frees r.toRowW && r.within.isEmpty)) = true) (hb : r.prog.bare) (hw : r.toRowW.promised)
    (h : Part r.prog q loose Xt Yf Ya N row false ∧ Part r.prog q loose Xt Yf Ya N row true ∧ WalkO q loose XP YP r.toRowW d kwd fun f vs => PySem.call f vs) : r.Holds :=
  holds_open (fun w => byRow2 row (P := fun w => (openEnds treeTable r.prog w N).map (fun s => (openSeen q loose (importedModules r.prog.main.body) Xt true s, Yf s)) = some (openGood q loose, Ya w)) h.1 h.2.1 w) hY hYk hX hXk hdef hp hk hRf hwr k1 ok hb hw h.2.2
end Lw
local macro_rules
  | `(tactic| o_law) => `(tactic| refine PySem.W.holds_law (by kernel_rfl) fun said => ?_)
set_option hygiene false in
local macro_rules
  | `(tactic| o_head $H:term) => `(tactic|
      refine Lw.holdsParts (q := Lw.view) (loose := [PySem.Str.ofString "tspecials", PySem.Str.ofString "_name_disallowed_re", PySem.Str.ofString "_value_disallowed_re", PySem.Str.ofString "_formatparam", PySem.Str.ofString "Whitespace"]) (Xt := fun s => xlAt Lw.view [] s && recOk (RowW.records (OpenRow.toRowW PySem.Challenge.rw_pm0077_01.row)) s) (XP := XL Lw.view []) (Yf := Hook.obs $H) (Ya := Hook.val $H) (YP := Hook.says $H) (N := 3698) "special-get-raises" (Hook.of $H) (Hook.keeps $H) (fun s e => xl_of s (Bool.and_eq_true_iff.mp e).1) XL.keeps (by rfl) (by rfl) (by rfl) (fun s e => recFacts_of (Bool.and_eq_true_iff.mp e).2) (by rfl) (by first | assumption | decide +kernel) (by decide +kernel) ⟨rfl, rfl, rfl, rfl, rfl, by decide +kernel⟩ ?hw ?hc)
open_top hd_01 for PySem.Challenge.rw_pm0077_01
namespace Lw
noncomputable def addrs : List Addr := [2, 3, 32, 34, 35, 37, 38, 42, 43, 47, 48, 52, 53, 54, 55, 57, 58, 60, 61, 69, 70, 72, 73, 75, 76, 77, 79, 80, 82, 83, 84, 86, 87, 89, 90, 91, 93, 94, 96, 97, 98, 101, 102, 103, 105, 106, 108, 109, 110, 112, 113, 115, 116, 117, 119, 120, 122, 123, 124, 125, 127, 128, 130, 131, 132, 135, 136, 137, 140, 141, 142, 144, 145, 147, 148, 149, 151, 152, 154, 155, 156, 159, 160, 161, 163, 164, 166, 167, 168, 170, 171, 173, 174, 175, 177, 178, 180, 181, 182, 183, 184, 185, 186, 189, 191, 192, 194, 195, 196, 198, 199, 201, 202, 213, 215, 216, 218, 219, 220, 222, 223, 225, 226, 227, 229, 230, 232, 233, 234, 236, 237, 239, 240, 241, 243, 244, 246, 247, 248, 250, 251, 253, 254, 255, 257, 258, 260, 261, 262, 263, 264, 265, 266, 269, 271, 272, 274, 275, 276, 278, 279, 281, 282, 283, 286, 287, 288, 291, 292, 293, 295, 296, 298, 299, 300, 303, 304]
theorem partF : Part PySem.Challenge.rw_pm0077_01.row.prog view [Str.ofString "tspecials", Str.ofString "_name_disallowed_re", Str.ofString "_value_disallowed_re", Str.ofString "_formatparam", Str.ofString "Whitespace"] (fun s => xlAt view [] s && recOk (RowW.records (OpenRow.toRowW PySem.Challenge.rw_pm0077_01.row)) s) (fun s => addrs.map s.heap.get?) (fun w => (hd_01.heap_1 w.params).map fun p => some p.2) 3698 "special-get-raises" false := fun w => by
  unfold openEnds fencedOpening topFrom
  rw [Fast.te14364793385576792824, Fast.te10274390034422433532, Fast.te14082659384304107361, Fast.te14289696077712309145, Fast.te1435165496053646825, Fast.te4187177175401517315, Fast.te5923862056798008813, Fast.te8920871248978507458]
  kernel_rfl
theorem partT : Part PySem.Challenge.rw_pm0077_01.row.prog view [Str.ofString "tspecials", Str.ofString "_name_disallowed_re", Str.ofString "_value_disallowed_re", Str.ofString "_formatparam", Str.ofString "Whitespace"] (fun s => xlAt view [] s && recOk (RowW.records (OpenRow.toRowW PySem.Challenge.rw_pm0077_01.row)) s) (fun s => addrs.map s.heap.get?) (fun w => (hd_01.heap_1 w.params).map fun p => some p.2) 3698 "special-get-raises" true := fun w => by
  unfold openEnds fencedOpening topFrom
  rw [Fast.te14364793385576792824, Fast.te10274390034422433532, Fast.te14082659384304107361, Fast.te14289696077712309145, Fast.te1435165496053646825, Fast.te4187177175401517315, Fast.te5923862056798008813, Fast.te8920871248978507458]
  kernel_rfl
end Lw
end
section
namespace Lw
open PySem PySem.Calls PyProof.Rows PySem.W

inductive D where
  | v (x : Value)
  | none
  | bool (b : Bool)
  | int (i : Int)
  | flt (x : UInt64)
  | str (s : Str)
  | tup (ds : List D)
  | lst (ds : List D)
  | inst (C : Addr) (fs : List (Str × D))
  | rng (a b c : Int)
  | slc (lo hi st : Option Int)

noncomputable abbrev tupObj (vs : Array Value) (n : Nat) : Obj := { cls := .type "tuple", data := .seq vs n }
noncomputable abbrev dctObj (es : Array DictEntry) (n : Nat) : Obj := { cls := .type "dict", data := .dict es n }
noncomputable abbrev lstObj (vs : Array Value) (n : Nat) : Obj := { cls := .type "list", data := .seq vs n }

mutual
inductive In (g : Heap) : Value → D → Prop
  | v (x : Value) : In g x (.v x)
  | none : In g .none .none
  | bool (b : Bool) : In g (.bool b) (.bool b)
  | int (i : Int) (t : Tok) : In g (.int i t) (.int i)
  | flt (x : UInt64) (t : Tok) : In g (.float x t) (.flt x)
  | str (s : Str) (t : Tok) : In g (.str s t) (.str s)
  | tup {a : Addr} {vs : Array Value} {n : Nat} {ds : List D} : g.get? a = some (tupObj vs n) → InL g vs.toList ds → In g (.ref a) (.tup ds)
  | lst {a : Addr} {vs : Array Value} {n : Nat} {ds : List D} : g.get? a = some (lstObj vs n) → InL g vs.toList ds → In g (.ref a) (.lst ds)
  | inst {a C dx : Addr} {es : Array DictEntry} {n : Nat} {fs : List (Str × D)} : g.get? a = some (instObj C dx) → g.get? dx = some (dctObj es n) → InE g es.toList fs → In g (.ref a) (.inst C fs)
  | rng {r : Addr} {a b c : Int} {t u v : Tok} : g.get? r = some { cls := .type "range", dict := none, data := .fields #[.int a t, .int b u, .int c v], slots := #[] } → In g (.ref r) (.rng a b c)
  | slc {r : Addr} (l u st : Option (Int × Tok)) : g.get? r = some { cls := .type "slice", data := .fields #[partValue l, partValue u, partValue st] } → In g (.ref r) (.slc (l.map (·.1)) (u.map (·.1)) (st.map (·.1)))
inductive InL (g : Heap) : List Value → List D → Prop
  | nil : InL g [] []
  | cons {v : Value} {vs : List Value} {d : D} {ds : List D} : In g v d → InL g vs ds → InL g (v :: vs) (d :: ds)
inductive InE (g : Heap) : List DictEntry → List (Str × D) → Prop
  | nil : InE g [] []
  | cons {e : DictEntry} {es : List DictEntry} {x : Str} {t : Tok} {d : D} {fs : List (Str × D)} : e.key = .str x t → In g e.val d → InE g es fs → InE g (e :: es) ((x, d) :: fs)
end

noncomputable def Sub (g h : Heap) : Prop := ∀ b o, g.get? b = some o → h.get? b = some o
theorem Sub.refl (g : Heap) : Sub g g := fun _ _ e => e
theorem Sub.trans {g h k : Heap} (a : Sub g h) (b : Sub h k) : Sub g k := fun x o e => b x o (a x o e)

mutual
theorem In.up {g g' : Heap} (k : Sub g g') : ∀ {v : Value} {d : D}, In g v d → In g' v d
  | _, _, .v x => .v x
  | _, _, .none => .none
  | _, _, .bool b => .bool b
  | _, _, .int i t => .int i t
  | _, _, .flt x t => .flt x t
  | _, _, .str x t => .str x t
  | _, _, .tup e r => .tup (k _ _ e) (InL.up k r)
  | _, _, .lst e r => .lst (k _ _ e) (InL.up k r)
  | _, _, .inst e n r => .inst (k _ _ e) (k _ _ n) (InE.up k r)
  | _, _, .rng e => .rng (k _ _ e)
  | _, _, .slc a b c e => .slc a b c (k _ _ e)
theorem InL.up {g g' : Heap} (k : Sub g g') : ∀ {vs : List Value} {ds : List D}, InL g vs ds → InL g' vs ds
  | _, _, .nil => .nil
  | _, _, .cons a r => .cons (In.up k a) (InL.up k r)
theorem InE.up {g g' : Heap} (k : Sub g g') : ∀ {es : List DictEntry} {fs : List (Str × D)}, InE g es fs → InE g' es fs
  | _, _, .nil => .nil
  | _, _, .cons e a r => .cons e (In.up k a) (InE.up k r)
end

theorem InL.length {g : Heap} : ∀ {vs : List Value} {ds : List D}, InL g vs ds → vs.length = ds.length
  | _, _, .nil => rfl
  | _, _, .cons _ r => by rw [List.length_cons, List.length_cons, InL.length r]
theorem InL.append {g : Heap} : ∀ {vs ws : List Value} {ds es : List D}, InL g vs ds → InL g ws es → InL g (vs ++ ws) (ds ++ es)
  | _, _, _, _, .nil, r => r
  | _, _, _, _, .cons a r, q => .cons a (InL.append r q)
theorem InL.get {g : Heap} : ∀ {vs : List Value} {ds : List D}, InL g vs ds → ∀ {i : Nat} {d : D}, ds[i]? = some d → ∃ v, vs[i]? = some v ∧ In g v d
  | _, _, .nil, i, d, e => by simp at e
  | _, _, .cons a r, 0, d, e => by simp at e; subst e; exact ⟨_, rfl, a⟩
  | _, _, .cons a r, i + 1, d, e => by
    obtain ⟨v, h1, h2⟩ := InL.get r (i := i) (d := d) (by simpa using e)
    exact ⟨v, by simpa using h1, h2⟩
inductive FAt : List (Str × D) → Str → D → Prop
  | here {x : Str} {d : D} {r : List (Str × D)} : FAt ((x, d) :: r) x d
  | there {x y : Str} {d e : D} {r : List (Str × D)} : (y == x) = false → FAt r x d → FAt ((y, e) :: r) x d
noncomputable def FNo (fs : List (Str × D)) (x : Str) : Bool := fs.all fun p => !(p.1 == x)
theorem isStr_str (y x : Str) (t : Tok) : (Value.str y t).isStr x = (y == x) := rfl
theorem InE.get {g : Heap} : ∀ {es : List DictEntry} {fs : List (Str × D)}, InE g es fs → ∀ {x : Str} {d : D}, FAt fs x d → ∃ e, es.find? (·.key.isStr x) = some e ∧ In g e.val d := by
  intro es fs h x d f
  induction f generalizing es with
  | here => cases h with | cons k a r => exact ⟨_, by rw [List.find?_cons, k, isStr_str, beq_self_eq_true], a⟩
  | there n _ ih =>
    cases h with
    | cons k a r =>
      obtain ⟨e, h1, h2⟩ := ih r
      exact ⟨e, by rw [List.find?_cons, k, isStr_str, n]; exact h1, h2⟩
theorem InE.no {g : Heap} : ∀ {es : List DictEntry} {fs : List (Str × D)}, InE g es fs → ∀ {x : Str}, FNo fs x = true → es.find? (·.key.isStr x) = none
  | _, _, .nil, x, _ => rfl
  | _, _, .cons (x := y) k a r, x, h => by
    unfold FNo at h
    rw [List.all_cons, Bool.and_eq_true] at h
    rw [List.find?_cons, k, isStr_str]
    have h1 : (y == x) = false := by simpa using h.1
    rw [h1]
    exact InE.no r h.2
theorem InE.plain {g : Heap} : ∀ {es : List DictEntry} {fs : List (Str × D)}, InE g es fs → es.any (·.refKey) = false
  | _, _, .nil => rfl
  | _, _, .cons k a r => by
    rw [List.any_cons, InE.plain r]
    unfold DictEntry.refKey
    rw [k]; rfl
theorem InE.append {g : Heap} : ∀ {es es' : List DictEntry} {fs fs' : List (Str × D)}, InE g es fs → InE g es' fs' → InE g (es ++ es') (fs ++ fs')
  | _, _, _, _, .nil, r => r
  | _, _, _, _, .cons k a r, q => .cons k a (InE.append r q)
theorem InE.length {g : Heap} : ∀ {es : List DictEntry} {fs : List (Str × D)}, InE g es fs → es.length = fs.length
  | _, _, .nil => rfl
  | _, _, .cons _ _ r => by rw [List.length_cons, List.length_cons, InE.length r]

inductive Cont where
  | list (ds : List D)
  | dict (fs : List (Str × D))
  | obj (C dx : Addr)
  | iter (ds : List D)
  | lit (l : Addr) (i : Nat)

noncomputable def rangeFrom (x st : Int) : Nat → List D
  | 0 => []
  | n + 1 => .int x :: rangeFrom (x + st) st n
noncomputable def signs (l : List Nat) : List D := l.map fun c => .str ⟨#[c]⟩
inductive ItOf (g : Heap) : Obj → List D → Prop
  | lst {o : Obj} {l : Addr} {vs : Array Value} {n i : Nat} {ds : List D} : o.cls = .type "list_iterator" → o.data = .fields #[.ref l, .int i 0] → g.get? l = some (lstObj vs n) → InL g (vs.toList.drop i) ds → ItOf g o ds
  | tup {o : Obj} {l : Addr} {vs : Array Value} {n i : Nat} {ds : List D} : o.cls = .type "tuple_iterator" → o.data = .fields #[.ref l, .int i 0] → g.get? l = some (tupObj vs n) → InL g (vs.toList.drop i) ds → ItOf g o ds
  | rng {x st : Int} {n : Nat} : ItOf g { cls := .type "range_iterator", dict := none, data := .fields #[rawInt x, rawInt n, rawInt st], slots := #[] } (rangeFrom x st n)
  | str {o : Obj} {ty : String} {x : Str} {t : Tok} {i : Nat} : (ty = "str_ascii_iterator" ∨ ty = "str_iterator") → o.cls = .type ty → o.data = .fields #[.str x t, .int i 0] → ItOf g o (signs (x.cps.toList.drop i))
theorem ItOf.up {g g' : Heap} (k : Sub g g') {o : Obj} {ds : List D} (h : ItOf g o ds) : ItOf g' o ds := by
  cases h with
  | lst a b c d => exact .lst a b (k _ _ c) (d.up k)
  | tup a b c d => exact .tup a b (k _ _ c) (d.up k)
  | rng => exact .rng
  | str a b c => exact .str a b c

structure Gam where
  prog : Program
  w : World
  K : Frag
  mg : Str → Option Value
  mb : Str → Option Value
  os : OsState
structure Gam.In (Γ : Gam) (g : Heap) : Prop where
  kin : Γ.K.In g
  ng : g.Ns mainGlobals Γ.mg
  nb : g.Ns builtinsNs Γ.mb
  nl : g.NoLimit
  boot : ∀ x : Str, x ≠ "__name__" → Γ.mb x = bootBuiltins x
theorem Gam.In.up {Γ : Gam} {g g' : Heap} (k : Sub g g') (h : Γ.In g) : Γ.In g' := ⟨fun a o e => k _ _ (h.kin a o e), h.ng.keeps k, h.nb.keeps k, h.nl.keeps k, h.boot⟩
noncomputable abbrev Gam.M (Γ : Gam) : Model := model Γ.prog Γ.w

structure Room (A : Around) (n : Nat) : Prop where
  h : A.handled = none
  d : A.depth + n < 990
  u : A.units + 8 * n + 300 < cLine
theorem Room.less {A : Around} {n k : Nat} (h : Room A n) (q : k ≤ n) : Room A k := ⟨h.h, by have := h.d; exact om_151 q this, by have := h.u; exact om_152 q this⟩

noncomputable abbrev Own := List (Addr × Cont)
noncomputable def Holds (g h : Heap) (a : Addr) : Cont → Prop
  | .list ds => ∃ vs n, h.get? a = some (lstObj vs n) ∧ InL g vs.toList ds
  | .dict fs => ∃ es n, h.get? a = some (dctObj es n) ∧ InE g es.toList fs
  | .obj C dx => h.get? a = some (instObj C dx)
  | .iter ds => ∃ o, h.get? a = some o ∧ ItOf g o ds
  | .lit l i => h.IsListIter a l i

structure Okb (Γ : Gam) (g : Heap) (s : Shared) (O : Own) : Prop where
  keep : Sub g s.heap
  gam : Γ.In g
  own : ∀ p ∈ O, Holds g s.heap p.1 p.2 ∧ g.get? p.1 = none
  nd : (O.map (·.1)).Nodup
  gens : s.gens = #[]
  os : s.os = Γ.os

structure To (g : Heap) (s : Shared) (X : Addr → Prop) (g' : Heap) (s' : Shared) : Prop where
  pres : ∀ b o, s.heap.get? b = some o → ¬ X b → s'.heap.get? b = some o
  up : Sub g g'
  new : ∀ b o, g'.get? b = some o → g.get? b = none → s.heap.get? b = none ∨ X b

theorem To.refl {g : Heap} {s : Shared} {X : Addr → Prop} : To g s X g s := ⟨fun _ _ e _ => e, Sub.refl _, fun b o e q => by rw [q] at e; cases e⟩
theorem To.trans {g g' g'' : Heap} {s s' s'' : Shared} {X Y : Addr → Prop} (a : To g s X g' s') (b : To g' s' Y g'' s'') (h : ∀ b, Y b → X b ∨ s.heap.get? b = none) : To g s X g'' s'' := by
  refine ⟨fun x o e q => ?_, a.up.trans b.up, fun x o e q => ?_⟩
  · refine b.pres x o (a.pres x o e q) fun y => ?_
    rcases h x y with z | z
    · exact q z
    · rw [e] at z; cases z
  · cases r : g'.get? x with
    | none =>
      rcases b.new x o e r with z | z
      · cases w : s.heap.get? x with
        | none => exact .inl rfl
        | some o' =>
          by_cases xx : X x
          · exact .inr xx
          · rw [a.pres x o' w xx] at z; cases z
      · rcases h x z with z | z
        · exact .inr z
        · exact .inl z
    | some o' => exact a.new x o' r q
theorem To.weak {g g' : Heap} {s s' : Shared} {X Y : Addr → Prop} (a : To g s X g' s') (h : ∀ b, X b → Y b ∨ s.heap.get? b = none) : To g s Y g' s' := To.trans (.refl) a h

noncomputable abbrev dom (O : Own) : Addr → Prop := fun b => b ∈ O.map (·.1)
noncomputable def Wi (O O' : Own) (h : Heap) : Prop := ∀ b, dom O' b → dom O b ∨ h.get? b = none
theorem Wi.refl {O : Own} {h : Heap} : Wi O O h := fun _ h => .inl h

structure Go (Γ : Gam) (g : Heap) (s : Shared) (O : Own) (g' : Heap) (s' : Shared) (O' : Own) : Prop where
  ok : Okb Γ g' s' O'
  to : To g s (dom O) g' s'
  wi : Wi O O' s.heap
theorem Go.refl {Γ : Gam} {g : Heap} {s : Shared} {O : Own} (h : Okb Γ g s O) : Go Γ g s O g s O := ⟨h, .refl, .refl⟩
theorem wi_trans {O O' O'' : Own} {g g' : Heap} {s s' : Shared} {X : Addr → Prop} (a : Wi O O' s.heap) (t : To g s X g' s') (b : Wi O' O'' s'.heap) (h : ∀ b, X b → dom O b ∨ s.heap.get? b = none ∨ ¬ dom O'' b) : Wi O O'' s.heap := fun x q => by
  rcases b x q with z | z
  · exact a x z
  · cases w : s.heap.get? x with
    | none => exact .inr rfl
    | some o =>
      by_cases xx : X x
      · rcases h x xx with y | y | y
        · exact .inl y
        · rw [w] at y; cases y
        · exact absurd q y
      · rw [t.pres x o w xx] at z; cases z
theorem Go.trans {Γ : Gam} {g g' g'' : Heap} {s s' s'' : Shared} {O O' O'' : Own} (a : Go Γ g s O g' s' O') (b : Go Γ g' s' O' g'' s'' O'') : Go Γ g s O g'' s'' O'' :=
  ⟨b.ok, a.to.trans b.to a.wi, wi_trans a.wi a.to b.wi fun _ h => .inl h⟩
theorem Okb.toks {Γ : Gam} {g : Heap} {s : Shared} {O : Own} (h : Okb Γ g s O) (t : Nat) : Okb Γ g { s with toks := t } O := ⟨h.keep, h.gam, h.own, h.nd, h.gens, h.os⟩
theorem To.toks {g : Heap} {s : Shared} {X : Addr → Prop} (t : Nat) : To g s X g { s with toks := t } := ⟨fun _ _ e _ => e, Sub.refl _, fun b o e q => by rw [q] at e; cases e⟩
theorem Go.toks {Γ : Gam} {g : Heap} {s : Shared} {O : Own} (h : Okb Γ g s O) (t : Nat) : Go Γ g s O g { s with toks := t } O := ⟨h.toks t, .toks t, .refl⟩

noncomputable def T (Γ : Gam) (A : Around) {α δ : Type} (t : Sem α) (R : Heap → α → δ → Prop) (g : Heap) (s : Shared) (O : Own) (Q : δ → Own → Prop) : Prop :=
  wpAny Γ.M A t (fun v s' => ∃ g' O' d, Go Γ g s O g' s' O' ∧ R g' v d ∧ Q d O') (fun _ _ => False) s

theorem T.use {Γ : Gam} {A : Around} {α δ : Type} {t : Sem α} {R : Heap → α → δ → Prop} {g : Heap} {s : Shared} {O : Own} {Q : δ → Own → Prop} {P : α → Shared → Prop} {E : Value → Shared → Prop} (h : T Γ A t R g s O Q)
    (k : ∀ v s' g' O' d, Go Γ g s O g' s' O' → R g' v d → Q d O' → P v s') : wpAny Γ.M A t P E s :=
  wpAny_mono h (fun _ _ x => match x with | ⟨_, _, _, a, b, c⟩ => k _ _ _ _ _ a b c) fun _ _ e => e.elim
theorem T.after {Γ : Gam} {A : Around} {α δ : Type} {t : Sem α} {R : Heap → α → δ → Prop} {g g₁ : Heap} {s s₁ : Shared} {O O₁ : Own} {Q : δ → Own → Prop} (G : Go Γ g s O g₁ s₁ O₁) (h : T Γ A t R g₁ s₁ O₁ Q) :
    wpAny Γ.M A t (fun v s' => ∃ g' O' d, Go Γ g s O g' s' O' ∧ R g' v d ∧ Q d O') (fun _ _ => False) s₁ :=
  T.use h fun _ _ _ _ _ a b c => ⟨_, _, _, G.trans a, b, c⟩

theorem T.mono {Γ : Gam} {A : Around} {α δ : Type} {t : Sem α} {R : Heap → α → δ → Prop} {g : Heap} {s : Shared} {O : Own} {Q Q' : δ → Own → Prop} (h : T Γ A t R g s O Q) (k : ∀ d O', Q d O' → Q' d O') : T Γ A t R g s O Q' :=
  T.use h (fun _ _ g' O' d a b c => ⟨g', O', d, a, b, k _ _ c⟩)

noncomputable abbrev Rho := List (Str × Option D)
structure Frm (env : Env) (g h : Heap) (O : Own) (ρ κ : Rho) : Prop where
  kind : env.scope.kind = .function
  glob : env.globals = mainGlobals
  bi : env.builtins = builtinsNs
  loc : ∃ m, h.Ns env.locals m ∧ ∀ x d, (x, some d) ∈ ρ → ∃ v, m x = some v ∧ In g v d
  lk : ∀ p ∈ ρ, env.kindOf p.1 = some .local ∧ (p.1 == ("__debug__" : Str)) = false
  nd : (ρ.map (·.1)).Nodup
  gl : g.get? env.locals = none
  lo : ¬ dom O env.locals
  ck : ∀ p ∈ κ, (p.1 == ("__debug__" : Str)) = false ∧ (p.1 == ("__classdict__" : Str)) = false
  cel : ∀ p ∈ κ, (env.kindOf p.1 = some .cell ∨ env.kindOf p.1 = some .free) ∧ ∃ ca, env.cells.lookup p.1 = some ca ∧ g.get? ca = none ∧ ¬ dom O ca ∧ ca ≠ env.locals ∧ ∃ ov, h.IsCell ca ov ∧ ∀ d, p.2 = some d → ∃ v, ov = some v ∧ In g v d
  cnd : (κ.map (·.1)).Nodup
  cin : ∀ p ∈ κ, ∀ q ∈ κ, env.cells.lookup p.1 = env.cells.lookup q.1 → p.1 = q.1

theorem To.none {g g' : Heap} {s s' : Shared} {X : Addr → Prop} (a : To g s X g' s') {b : Addr} {o : Obj} (e : s.heap.get? b = some o) (x : ¬ X b) (n : g.get? b = none) : g'.get? b = none := by
  cases q : g'.get? b with
  | none => rfl
  | some o' =>
    rcases a.new b o' q n with z | z
    · rw [e] at z; cases z
    · exact absurd z x
theorem Wi.off {O O' : Own} {h : Heap} (w : Wi O O' h) {b : Addr} {o : Obj} (x : ¬ dom O b) (e : h.get? b = some o) : ¬ dom O' b := fun y => (w b y).elim x fun z => by rw [e] at z; cases z
theorem Frm.go {Γ : Gam} {env : Env} {g g' : Heap} {s s' : Shared} {O O' : Own} {ρ κ : Rho} (F : Frm env g s.heap O ρ κ) (G : Go Γ g s O g' s' O') : Frm env g' s'.heap O' ρ κ := by
  obtain ⟨m, hm, hr⟩ := F.loc
  obtain ⟨o, es, ep, ho, hd, hk, hf⟩ := hm
  refine ⟨F.kind, F.glob, F.bi, ⟨m, ⟨o, es, ep, G.to.pres _ _ ho F.lo, hd, hk, hf⟩, fun x d hx => ?_⟩, F.lk, F.nd, G.to.none ho F.lo F.gl, G.wi.off F.lo ho, F.ck, fun p hp => ?_, F.cnd, F.cin⟩
  · obtain ⟨v, a, b⟩ := hr x d hx
    exact ⟨v, a, b.up G.to.up⟩
  · obtain ⟨h1, ca, h2, h3, h4, h5, ov, ⟨oc, hoc, hdc⟩, h6⟩ := F.cel p hp
    refine ⟨h1, ca, h2, G.to.none hoc h4 h3, G.wi.off h4 hoc, h5, ov, ⟨oc, G.to.pres _ _ hoc h4, hdc⟩, fun d hd => ?_⟩
    obtain ⟨v, a, b⟩ := h6 d hd
    exact ⟨v, a, b.up G.to.up⟩

noncomputable def Ev (Γ : Gam) (A : Around) (env : Env) (ρ κ : Rho) (O : Own) (e : Expr) (Q : D → Own → Prop) : Prop :=
  ∀ g s, Okb Γ g s O → Frm env g s.heap O ρ κ → T Γ A (eval e env) In g s O Q
noncomputable def Op1 (Γ : Gam) (A : Around) (O : Own) (f : Value → Sem Value) (a : D) (Q : D → Own → Prop) : Prop :=
  ∀ g s v, Okb Γ g s O → In g v a → T Γ A (f v) In g s O Q
noncomputable def Op2 (Γ : Gam) (A : Around) (O : Own) (f : Value → Value → Sem Value) (a b : D) (Q : D → Own → Prop) : Prop :=
  ∀ g s v w, Okb Γ g s O → In g v a → In g w b → T Γ A (f v w) In g s O Q
noncomputable def Tr (Γ : Gam) (A : Around) (O : Own) (a : D) (Q : Bool → Own → Prop) : Prop :=
  ∀ g s v, Okb Γ g s O → In g v a → T Γ A (truthy v) (fun _ b c => b = c) g s O Q
noncomputable def Te (Γ : Gam) (A : Around) (env : Env) (ρ κ : Rho) (O : Own) (e : Expr) (Q : Bool → Own → Prop) : Prop :=
  ∀ g s, Okb Γ g s O → Frm env g s.heap O ρ κ → T Γ A (isTrue e env (eval e env)) (fun _ b c => b = c) g s O Q

noncomputable abbrev KO2 (Γ : Gam) (A : Around) (f : Value → Value → Sem Value) (a : D) (Q : D → Own → Prop) : D → Own → Prop := fun b O => Op2 Γ A O f a b Q
noncomputable abbrev KE2 (Γ : Gam) (A : Around) (env : Env) (ρ κ : Rho) (r : Expr) (f : Value → Value → Sem Value) (Q : D → Own → Prop) : D → Own → Prop := fun a O => Ev Γ A env ρ κ O r (KO2 Γ A f a Q)
noncomputable abbrev KO1 (Γ : Gam) (A : Around) (f : Value → Sem Value) (Q : D → Own → Prop) : D → Own → Prop := fun a O => Op1 Γ A O f a Q
noncomputable abbrev KTr (Γ : Gam) (A : Around) (Q : Bool → Own → Prop) : D → Own → Prop := fun a O => Tr Γ A O a Q
noncomputable abbrev KIfE (Γ : Gam) (A : Around) (env : Env) (ρ κ : Rho) (x y : Expr) (Q : D → Own → Prop) : Bool → Own → Prop := fun b O => if b then Ev Γ A env ρ κ O x Q else Ev Γ A env ρ κ O y Q
noncomputable abbrev KNot (Q : Bool → Own → Prop) : Bool → Own → Prop := fun b O => Q (!b) O
section
variable {Γ : Gam} {A : Around} {env : Env} {ρ κ : Rho} {O : Own}

theorem T.val {g : Heap} {s : Shared} {Q : D → Own → Prop} {v : Value} {d : D} (ok : Okb Γ g s O) (t : Nat) (r : In g v d) (q : Q d O) : ∃ g' O' d, Go Γ g s O g' { s with toks := t } O' ∧ In g' v d ∧ Q d O' := ⟨g, O, d, .toks ok t, r, q⟩
theorem T.val0 {g : Heap} {s : Shared} {Q : D → Own → Prop} {v : Value} {d : D} (ok : Okb Γ g s O) (r : In g v d) (q : Q d O) : ∃ g' O' d, Go Γ g s O g' s O' ∧ In g' v d ∧ Q d O' := ⟨g, O, d, .refl ok, r, q⟩

theorem Ev.int {i : Int} {k : Nat} {pos : Pos} {Q : D → Own → Prop} (q : Q (.int i) O) : Ev Γ A env ρ κ O (.Constant (.int i) k pos) Q := fun _ _ ok _ => wpAny_Constant_int (T.val ok _ (.int _ _) q)
theorem Ev.str {x : Str} {k : Nat} {pos : Pos} {Q : D → Own → Prop} (q : Q (.str x) O) : Ev Γ A env ρ κ O (.Constant (.str x) k pos) Q := fun _ _ ok _ => Constant_str (T.val ok _ (.str _ _) q)
theorem Ev.flt {x : UInt64} {k : Nat} {pos : Pos} {Q : D → Own → Prop} (q : Q (.flt x) O) : Ev Γ A env ρ κ O (.Constant (.float x) k pos) Q := fun _ _ ok _ => wpAny_Constant_float (T.val ok _ (.flt _ _) q)
theorem Ev.bool {x : Bool} {k : Nat} {pos : Pos} {Q : D → Own → Prop} (q : Q (.bool x) O) : Ev Γ A env ρ κ O (.Constant (.bool x) k pos) Q := fun _ _ ok _ => wpAny_Constant_bool (T.val0 ok (.bool _) q)
theorem Ev.non {k : Nat} {pos : Pos} {Q : D → Own → Prop} (q : Q .none O) : Ev Γ A env ρ κ O (.Constant .none k pos) Q := fun _ _ ok _ => wpAny_Constant_none (T.val0 ok .none q)

theorem Ev.loc {x : Str} {pos : Pos} {d : D} {Q : D → Own → Prop} (h : (x, some d) ∈ ρ) (q : Q d O) : Ev Γ A env ρ κ O (.Name x pos) Q := fun g s ok F => by
  obtain ⟨m, hm, hr⟩ := F.loc
  obtain ⟨v, a, b⟩ := hr x d h
  exact wpAny_Name (wpAny_loadName_local F.kind (F.lk _ h).1 hm a (T.val0 ok b q)) (F.lk _ h).2
theorem Ev.cel {x : Str} {pos : Pos} {d : D} {Q : D → Own → Prop} (h : (x, some d) ∈ κ) (q : Q d O) : Ev Γ A env ρ κ O (.Name x pos) Q := fun g s ok F => by
  obtain ⟨h1, ca, h2, _, _, _, ov, hc, h6⟩ := F.cel _ h
  obtain ⟨v, rfl, b⟩ := h6 d rfl
  rcases h1 with h1 | h1
  · exact wpAny_Name (wpAny_loadName_cell F.kind h1 h2 hc (T.val0 ok b q)) (F.ck _ h).1
  · exact wpAny_Name (wpAny_loadName_free F.kind h1 h2 hc (T.val0 ok b q) (F.ck _ h).2) (F.ck _ h).1
structure Glo (Γ : Gam) (x : Str) (v : Value) : Prop where
  h : nsIn Γ.K mainGlobals x = some (some v)
  d : (x == ("__debug__" : Str)) = false
structure Bui (Γ : Gam) (x : Str) (v : Value) : Prop where
  h : nsIn Γ.K mainGlobals x = some none
  b : bootBuiltins x = some v
  n : x ≠ "__name__"
  d : (x == ("__debug__" : Str)) = false
theorem Ev.glo {x : Str} {pos : Pos} {v : Value} {Q : D → Own → Prop} (hv : Glo Γ x v) (q : Q (.v v) O) (hx : env.kindOf x = some .globalImplicit) :
    Ev Γ A env ρ κ O (.Name x pos) Q := fun g s ok F =>
  Name_function_global F.kind hx (loadGlobal_global (by rw [F.glob]; exact ok.gam.ng.keeps ok.keep) (mg_of ok.gam.kin ok.gam.ng hv.h) (T.val0 ok (.v v) q)) hv.d
theorem Ev.bui {x : Str} {pos : Pos} {v : Value} {Q : D → Own → Prop} (hv : Bui Γ x v) (q : Q (.v v) O) (hx : env.kindOf x = some .globalImplicit) :
    Ev Γ A env ρ κ O (.Name x pos) Q := fun g s ok F =>
  Name_function_global F.kind hx (loadGlobal_builtin (by rw [F.glob]; exact ok.gam.ng.keeps ok.keep) (mg_none_of ok.gam.kin ok.gam.ng hv.h) (by rw [F.bi]; exact ok.gam.nb.keeps ok.keep) ((ok.gam.boot x hv.n).trans hv.b) (T.val0 ok (.v v) q)) hv.d

theorem Ev.bin {l r : Expr} {op : Operator} {pos : Pos} {Q : D → Own → Prop} (h : Ev Γ A env ρ κ O l (KE2 Γ A env ρ κ r (binaryOp op) Q)) : Ev Γ A env ρ κ O (.BinOp l op r pos) Q := fun g s ok F =>
  wpAny_BinOp (T.use (h g s ok F) (fun v s₁ g₁ O₁ a G₁ ia h₁ => T.use (h₁ g₁ s₁ G₁.ok (F.go G₁)) (fun w s₂ g₂ O₂ b G₂ ib h₂ => 
    T.after (G₁.trans G₂) (h₂ g₂ s₂ v w G₂.ok (ia.up G₂.to.up) ib))))
theorem Ev.una {x : Expr} {op : UnaryOp} {pos : Pos} {Q : D → Own → Prop} (h : Ev Γ A env ρ κ O x (KO1 Γ A (unaryOp op) Q)) : Ev Γ A env ρ κ O (.UnaryOp op x pos) Q := fun g s ok F =>
  wpAny_UnaryOp (T.use (h g s ok F) (fun v s₁ g₁ O₁ a G₁ ia h₁ => T.after G₁ (h₁ g₁ s₁ v G₁.ok ia)))
theorem Ev.cmp {l r : Expr} {op : CmpOp} {pos : Pos} {Q : D → Own → Prop} (h : Ev Γ A env ρ κ O l (KE2 Γ A env ρ κ r (compareOp op) Q)) (hm : behindInMarks op r = false := by with_unfolding_all rfl) :
    Ev Γ A env ρ κ O (.Compare l [op] [r] pos) Q := fun g s ok F =>
  wpAny_Compare1 (T.use (h g s ok F) (fun v s₁ g₁ O₁ a G₁ ia h₁ => T.use (h₁ g₁ s₁ G₁.ok (F.go G₁)) (fun w s₂ g₂ O₂ b G₂ ib h₂ => 
    T.after (G₁.trans G₂) (h₂ g₂ s₂ v w G₂.ok (ia.up G₂.to.up) ib)))) hm
theorem Ev.ife {test body orelse : Expr} {pos : Pos} {Q : D → Own → Prop} (h : Te Γ A env ρ κ O test (KIfE Γ A env ρ κ body orelse Q)) : Ev Γ A env ρ κ O (.IfExp test body orelse pos) Q := fun g s ok F =>
  wpAny_IfExp (T.use (h g s ok F) (fun b s₁ g₁ O₁ c G₁ ia h₁ => by
    subst ia
    cases b <;> exact T.after G₁ (h₁ g₁ s₁ G₁.ok (F.go G₁))))

theorem Te.cmp {l r : Expr} {op : CmpOp} {pos : Pos} {Q : Bool → Own → Prop} (h : Ev Γ A env ρ κ O l (KE2 Γ A env ρ κ r (compareOp op) (KTr Γ A Q))) (hm : behindInMarks op r = false := by with_unfolding_all rfl) :
    Te Γ A env ρ κ O (.Compare l [op] [r] pos) Q := fun g s ok F =>
  wpAny_isTrue_Compare1 (T.use (h g s ok F) (fun v s₁ g₁ O₁ a G₁ ia h₁ => T.use (h₁ g₁ s₁ G₁.ok (F.go G₁)) (fun w s₂ g₂ O₂ b G₂ ib h₂ => 
    wpAny_mono (h₂ g₂ s₂ v w G₂.ok (ia.up G₂.to.up) ib) (fun u s₃ hx2 => by obtain ⟨g₃, O₃, c, G₃, ic, h₃⟩ := hx2; exact T.after ((G₁.trans G₂).trans G₃) (h₃ g₃ s₃ u G₃.ok ic))
      fun _ _ e => e))) hm
theorem Tr.bool {b : Bool} {Q : Bool → Own → Prop} (q : Q b O) : Tr Γ A O (.bool b) Q := fun g s v ok i => by
  cases i; exact wpAny_truthy_bool ⟨g, O, b, .refl ok, rfl, q⟩
theorem Tr.non {Q : Bool → Own → Prop} (q : Q false O) : Tr Γ A O .none Q := fun g s v ok i => by
  cases i; exact wpAny_pure ⟨g, O, false, .refl ok, rfl, q⟩
end
end Lw
end
section
namespace Lw
open PySem PySem.Calls PyProof.Rows PySem.W

section
variable {Γ : Gam} {A : Around} {O : Own} {Q : D → Own → Prop} {a b : Int} {x y : UInt64} {u w : Str}
theorem Op2.addI (q : Q (.int (a + b)) O) : Op2 Γ A O (binaryOp .Add) (.int a) (.int b) Q := fun g s v w ok i j => by cases i; cases j; exact add_int (T.val ok _ (.int _ _) q)
theorem Op2.subI (q : Q (.int (a - b)) O) : Op2 Γ A O (binaryOp .Sub) (.int a) (.int b) Q := fun g s v w ok i j => by cases i; cases j; exact PyProof.Rows.sub_int (T.val ok _ (.int _ _) q)
theorem Op2.mulI (hm : IntMulOk a b) (q : Q (.int (a * b)) O) : Op2 Γ A O (binaryOp .Mult) (.int a) (.int b) Q := fun g s v w ok i j => by cases i; cases j; exact PyProof.Rows.mul_int (T.val ok _ (.int _ _) q) hm
theorem Op2.fdivI (hb : b ≠ 0) (hs : b.natAbs < 1073741824) (q : Q (.int (a.fdiv b)) O) : Op2 Γ A O (binaryOp .FloorDiv) (.int a) (.int b) Q := fun g s v w ok i j => by cases i; cases j; exact PyProof.Rows.floordiv_int hb (T.val ok _ (.int _ _) q) (.inl (PyProof.noPylong_small hs))
theorem Op2.modI (hb : b ≠ 0) (q : Q (.int (a.fmod b)) O) : Op2 Γ A O (binaryOp .Mod) (.int a) (.int b) Q := fun g s v w ok i j => by cases i; cases j; exact PyProof.Rows.mod_int' hb (T.val ok _ (.int _ _) q)
theorem Op2.shrI (hb : 0 ≤ b) (q : Q (.int (a.fdiv (2 ^ b.toNat))) O) : Op2 Γ A O (binaryOp .RShift) (.int a) (.int b) Q := fun g s v w ok i j => by cases i; cases j; exact PyProof.Rows.rshift_int hb (T.val ok _ (.int _ _) q)
theorem Op2.andI (q : Q (.int (Builtin.bitAnd a b)) O) : Op2 Γ A O (binaryOp .BitAnd) (.int a) (.int b) Q := fun g s v w ok i j => by cases i; cases j; exact PyProof.Rows.and_int (T.val ok _ (.int _ _) q)
theorem Op2.powI (hb : 0 ≤ b) (hs : (Builtin.Int.intBits a : Int) * b ≤ 2 ^ 27) (q : Q (.int (a ^ b.toNat)) O) : Op2 Γ A O (binaryOp .Pow) (.int a) (.int b) Q := fun g s v w ok i j => by cases i; cases j; exact PyProof.Rows.pow_int hb hs (T.val ok _ (.int _ _) q)
theorem Op1.negI (q : Q (.int (-a)) O) : Op1 Γ A O (unaryOp .USub) (.int a) Q := fun g s v ok i => by cases i; exact PyProof.Rows.neg_int (T.val ok _ (.int _ _) q)
theorem Op2.eqI (q : Q (.bool (a == b)) O) : Op2 Γ A O (compareOp .Eq) (.int a) (.int b) Q := fun g s v w ok i j => by cases i; cases j; exact PyProof.Rows.eq_int (T.val0 ok (.bool _) q)
theorem Op2.neI (q : Q (.bool (a != b)) O) : Op2 Γ A O (compareOp .NotEq) (.int a) (.int b) Q := fun g s v w ok i j => by cases i; cases j; exact PyProof.Rows.ne_int (T.val0 ok (.bool _) q)
theorem Op2.ltI (q : Q (.bool (decide (a < b))) O) : Op2 Γ A O (compareOp .Lt) (.int a) (.int b) Q := fun g s v w ok i j => by cases i; cases j; exact PyProof.Rows.lt_int (T.val0 ok (.bool _) q)
theorem Op2.leI (q : Q (.bool (decide (a ≤ b))) O) : Op2 Γ A O (compareOp .LtE) (.int a) (.int b) Q := fun g s v w ok i j => by cases i; cases j; exact PyProof.Rows.le_int (T.val0 ok (.bool _) q)
theorem Op2.gtI (q : Q (.bool (decide (b < a))) O) : Op2 Γ A O (compareOp .Gt) (.int a) (.int b) Q := fun g s v w ok i j => by cases i; cases j; exact PyProof.Rows.gt_int (T.val0 ok (.bool _) q)
theorem Op2.geI (q : Q (.bool (decide (b ≤ a))) O) : Op2 Γ A O (compareOp .GtE) (.int a) (.int b) Q := fun g s v w ok i j => by cases i; cases j; exact PyProof.Rows.ge_int (T.val0 ok (.bool _) q)

noncomputable def idiv (a b : Int) : UInt64 := Float64.ofFrac (decide (a < 0) != decide (b < 0)) a.natAbs b.natAbs
theorem Op2.divI (hb : (b == 0) = false) (hi : Float64.isInf (idiv a b) = false) (q : Q (.flt (idiv a b)) O) : Op2 Γ A O (binaryOp .Div) (.int a) (.int b) Q := fun g s v w ok i j => by
  cases i; cases j; exact AutoIntOps.truediv_2 (by rw [hb]; decide) (by rw [show Float64.ofFrac _ _ _ = idiv a b from rfl, hi]; decide) (T.val ok _ (.flt _ _) q)
theorem Op2.addF (q : Q (.flt (Float64.add x y)) O) : Op2 Γ A O (binaryOp .Add) (.flt x) (.flt y) Q := fun g s v w ok i j => by cases i; cases j; exact PyProof.Rows.add_float (T.val ok _ (.flt _ _) q)
theorem Op2.subF (q : Q (.flt (Float64.sub x y)) O) : Op2 Γ A O (binaryOp .Sub) (.flt x) (.flt y) Q := fun g s v w ok i j => by cases i; cases j; exact PyProof.Rows.sub_float (T.val ok _ (.flt _ _) q)
theorem Op2.mulF (q : Q (.flt (Float64.mul x y)) O) : Op2 Γ A O (binaryOp .Mult) (.flt x) (.flt y) Q := fun g s v w ok i j => by cases i; cases j; exact PyProof.Rows.mul_float (T.val ok _ (.flt _ _) q)
theorem Op2.divF (hz : Float64.isZero y = false) (q : Q (.flt (Float64.div x y)) O) : Op2 Γ A O (binaryOp .Div) (.flt x) (.flt y) Q := fun g s v w ok i j => by
  cases i; cases j; exact AutoFloatOpsIf.truediv (by rw [if_neg (by rw [hz]; decide)]; exact T.val ok _ (.flt _ _) q)
theorem Op2.modF (hz : Float64.isZero y = false) (q : Q (.flt (Float64.divmod x y).2) O) : Op2 Γ A O (binaryOp .Mod) (.flt x) (.flt y) Q := fun g s v w ok i j => by
  cases i; cases j; exact AutoFloatOpsIf.mod (by rw [if_neg (by rw [hz]; decide)]; exact T.val ok _ (.flt _ _) q)
theorem Op2.eqF (q : Q (.bool (Float64.cmp x y == some .eq)) O) : Op2 Γ A O (compareOp .Eq) (.flt x) (.flt y) Q := fun g s v w ok i j => by cases i; cases j; exact AutoFloatOps.eq_0 (T.val0 ok (.bool _) q)
theorem Op2.neF (q : Q (.bool (Float64.cmp x y != some .eq)) O) : Op2 Γ A O (compareOp .NotEq) (.flt x) (.flt y) Q := fun g s v w ok i j => by cases i; cases j; exact AutoFloatOps.ne_0 (T.val0 ok (.bool _) q)
theorem Op2.subFI (hf : b.natAbs < 2 ^ 1023) (q : Q (.flt (Float64.sub x (Float64.ofInt b))) O) : Op2 Γ A O (binaryOp .Sub) (.flt x) (.int b) Q := fun g s v w ok i j => by cases i; cases j; exact PyProof.Rows.sub_fi_fits hf (T.val ok _ (.flt _ _) q)
theorem Op2.mulFI (hf : b.natAbs < 2 ^ 1023) (q : Q (.flt (Float64.mul x (Float64.ofInt b))) O) : Op2 Γ A O (binaryOp .Mult) (.flt x) (.int b) Q := fun g s v w ok i j => by cases i; cases j; exact PyProof.Rows.mul_fi_fits hf (T.val ok _ (.flt _ _) q)
theorem Op2.divIF (hf : Float64.isInf (Float64.ofInt a) = false) (hz : Float64.isZero y = false) (q : Q (.flt (Float64.div (Float64.ofInt a) y)) O) : Op2 Γ A O (binaryOp .Div) (.int a) (.flt y) Q := fun g s v w ok i j => by
  cases i; cases j; exact AutoFloatOps.truediv_if_2 (by rw [hf]; decide) (by rw [hz]; decide) (T.val ok _ (.flt _ _) q)

theorem Op2.addS (hs : u.length + w.length ≤ sizeLine) (q : Q (.str (u ++ w)) O) : Op2 Γ A O (binaryOp .Add) (.str u) (.str w) Q := fun g s v w ok i j => by cases i; cases j; exact PyProof.Rows.add_str (fun _ _ => T.val ok _ (.str _ _) q) hs
theorem Op2.mulS {n : Int} (hs : MulOk u n) (q : Q (.str (Txt.mul u n)) O) : Op2 Γ A O (binaryOp .Mult) (.str u) (.int n) Q := fun g s v w ok i j => by cases i; cases j; exact SB.mul hs (fun _ _ => T.val ok _ (.str _ _) q)
theorem Op2.eqS (q : Q (.bool (u == w)) O) : Op2 Γ A O (compareOp .Eq) (.str u) (.str w) Q := fun g s v w ok i j => by cases i; cases j; exact PyProof.Rows.eq_str (T.val0 ok (.bool _) q)
theorem Op2.neS (q : Q (.bool (u != w)) O) : Op2 Γ A O (compareOp .NotEq) (.str u) (.str w) Q := fun g s v w ok i j => by cases i; cases j; exact PyProof.Rows.ne_str (T.val0 ok (.bool _) q)
end
end Lw
end
section
namespace Lw
open PySem PySem.Calls PyProof.Rows PySem.W

theorem Holds.same {g h h' : Heap} {a : Addr} (e : h'.get? a = h.get? a) : ∀ {c : Cont}, Holds g h a c → Holds g h' a c
  | .list ds, ⟨vs, n, x, y⟩ => ⟨vs, n, e.trans x, y⟩
  | .dict fs, ⟨es, n, x, y⟩ => ⟨es, n, e.trans x, y⟩
  | .obj C dx, x => e.trans x
  | .iter ds, ⟨o, x, y⟩ => ⟨o, e.trans x, y⟩
  | .lit l i, ⟨o, x, y⟩ => ⟨o, e.trans x, y⟩
theorem Holds.up {g g' h : Heap} {a : Addr} (k : Sub g g') : ∀ {c : Cont}, Holds g h a c → Holds g' h a c
  | .list ds, ⟨vs, n, x, y⟩ => ⟨vs, n, x, y.up k⟩
  | .dict fs, ⟨es, n, x, y⟩ => ⟨es, n, x, y.up k⟩
  | .obj C dx, x => x
  | .iter ds, ⟨o, x, y⟩ => ⟨o, x, y.up k⟩
  | .lit l i, x => x
theorem Holds.there {g h : Heap} {a : Addr} : ∀ {c : Cont}, Holds g h a c → ∃ o, h.get? a = some o
  | .list ds, ⟨_, _, x, _⟩ => ⟨_, x⟩
  | .dict fs, ⟨_, _, x, _⟩ => ⟨_, x⟩
  | .obj C dx, x => ⟨_, x⟩
  | .iter ds, ⟨o, x, _⟩ => ⟨o, x⟩
  | .lit l i, ⟨o, x, _⟩ => ⟨o, x⟩

theorem Okb.but {Γ : Gam} {g h' : Heap} {s : Shared} {O : Own} {a : Addr} (h : Okb Γ g s O) (hs : Heap.SameBut a s.heap h') (ga : g.get? a = none) (oa : ¬ dom O a) (t : Nat) : Okb Γ g { s with heap := h', toks := t } O :=
  ⟨fun b o e => (hs.2 b (fun z => by rw [z, ga] at e; cases e)).trans (h.keep b o e), h.gam,
    fun p hp => ⟨(h.own p hp).1.same (hs.2 p.1 fun z => oa (z ▸ List.mem_map_of_mem hp)), (h.own p hp).2⟩, h.nd, h.gens, h.os⟩
theorem To.but {g h' : Heap} {s : Shared} {X : Addr → Prop} {a : Addr} (hs : Heap.SameBut a s.heap h') (x : X a) (t : Nat) : To g s X g { s with heap := h', toks := t } :=
  ⟨fun b o e q => (hs.2 b fun z => q (z ▸ x)).trans e, Sub.refl _, fun b o e q => by rw [q] at e; cases e⟩

inductive Fl where
  | next
  | brk
  | cont
  | ret (d : D)
inductive FlIn (g : Heap) : Flow → Fl → Prop
  | next : FlIn g .next .next
  | brk : FlIn g .brk .brk
  | cont : FlIn g .cont .cont
  | ret {v : Value} {d : D} : In g v d → FlIn g (.ret v) (.ret d)
noncomputable def isCell (env : Env) (κ : Rho) (b : Addr) : Prop := env.func.isSome = true ∧ ∃ x ∈ κ.map (·.1), env.cells.lookup x = some b
noncomputable def Xf (env : Env) (κ : Rho) (O : Own) : Addr → Prop := fun b => b = env.locals ∨ isCell env κ b ∨ dom O b

structure Gs (Γ : Gam) (env : Env) (g : Heap) (s : Shared) (κ : Rho) (O : Own) (g' : Heap) (s' : Shared) (ρ' κ' : Rho) (O' : Own) : Prop where
  ok : Okb Γ g' s' O'
  fr : Frm env g' s'.heap O' ρ' κ'
  to : To g s (Xf env κ O) g' s'
  wi : Wi O O' s.heap
  ks : κ'.map (·.1) = κ.map (·.1)
theorem Gs.ofGo {Γ : Gam} {env : Env} {g g' : Heap} {s s' : Shared} {ρ κ : Rho} {O O' : Own} (F : Frm env g s.heap O ρ κ) (G : Go Γ g s O g' s' O') : Gs Γ env g s κ O g' s' ρ κ O' :=
  ⟨G.ok, F.go G, G.to.weak fun _ h => .inl (.inr (.inr h)), G.wi, rfl⟩
theorem Gs.trans {Γ : Gam} {env : Env} {g g' g'' : Heap} {s s' s'' : Shared} {ρ' κ κ' ρ'' κ'' : Rho} {O O' O'' : Own} (a : Gs Γ env g s κ O g' s' ρ' κ' O') (b : Gs Γ env g' s' κ' O' g'' s'' ρ'' κ'' O'') : Gs Γ env g s κ O g'' s'' ρ'' κ'' O'' := by
  refine ⟨b.ok, b.fr, a.to.trans b.to fun x h => ?_, wi_trans a.wi a.to b.wi fun x h => ?_, b.ks.trans a.ks⟩
  · rcases h with h | h | h
    · exact .inl (.inl h)
    · exact .inl (.inr (.inl (by unfold isCell at h ⊢; rw [a.ks] at h; exact h)))
    · rcases a.wi x h with z | z
      · exact .inl (.inr (.inr z))
      · exact .inr z
  · rcases h with h | h | h
    · exact .inr (.inr (h ▸ b.fr.lo))
    · refine .inr (.inr ?_)
      have h' : isCell env κ'' x := by unfold isCell at h ⊢; rw [b.ks.trans a.ks]; exact h
      obtain ⟨_, y, hy, e⟩ := h'
      obtain ⟨p, hp, rfl⟩ := List.mem_map.mp hy
      obtain ⟨_, ca, h2, _, h4, _⟩ := b.fr.cel p hp
      rw [e] at h2; cases h2; exact h4
    · exact .inl h

theorem Fx.use {Γ : Gam} {A : Around} {env : Env} {κ : Rho} {t : Sem Flow} {g : Heap} {s : Shared} {O : Own} {Q : Fl → Rho → Rho → Own → Prop} {P : Flow → Shared → Prop} {E : Value → Shared → Prop}
    (h : wpAny Γ.M A t (fun v s' => ∃ g' ρ' κ' O' f, Gs Γ env g s κ O g' s' ρ' κ' O' ∧ FlIn g' v f ∧ Q f ρ' κ' O') (fun _ _ => False) s)
    (k : ∀ v s' g' ρ' κ' O' f, Gs Γ env g s κ O g' s' ρ' κ' O' → FlIn g' v f → Q f ρ' κ' O' → P v s') : wpAny Γ.M A t P E s :=
  wpAny_mono h (fun _ _ x => match x with | ⟨_, _, _, _, _, a, b, c⟩ => k _ _ _ _ _ _ _ a b c) fun _ _ e => e.elim
theorem Fx.after {Γ : Gam} {A : Around} {env : Env} {κ κ₁ ρ₁ : Rho} {t : Sem Flow} {g g₁ : Heap} {s s₁ : Shared} {O O₁ : Own} {Q : Fl → Rho → Rho → Own → Prop} (G : Gs Γ env g s κ O g₁ s₁ ρ₁ κ₁ O₁)
    (h : wpAny Γ.M A t (fun v s' => ∃ g' ρ' κ' O' f, Gs Γ env g₁ s₁ κ₁ O₁ g' s' ρ' κ' O' ∧ FlIn g' v f ∧ Q f ρ' κ' O') (fun _ _ => False) s₁) :
    wpAny Γ.M A t (fun v s' => ∃ g' ρ' κ' O' f, Gs Γ env g s κ O g' s' ρ' κ' O' ∧ FlIn g' v f ∧ Q f ρ' κ' O') (fun _ _ => False) s₁ :=
  Fx.use h fun _ _ _ _ _ _ _ a b c => ⟨_, _, _, _, _, G.trans a, b, c⟩
theorem As.use {Γ : Gam} {A : Around} {env : Env} {κ : Rho} {α : Type} {t : Sem α} {g : Heap} {s : Shared} {O : Own} {Q : Rho → Rho → Own → Prop} {P : α → Shared → Prop} {E : Value → Shared → Prop}
    (h : wpAny Γ.M A t (fun _ s' => ∃ g' ρ' κ' O', Gs Γ env g s κ O g' s' ρ' κ' O' ∧ Q ρ' κ' O') (fun _ _ => False) s)
    (k : ∀ v s' g' ρ' κ' O', Gs Γ env g s κ O g' s' ρ' κ' O' → Q ρ' κ' O' → P v s') : wpAny Γ.M A t P E s :=
  wpAny_mono h (fun _ _ x => match x with | ⟨_, _, _, _, a, c⟩ => k _ _ _ _ _ _ a c) fun _ _ e => e.elim
theorem As.after {Γ : Gam} {A : Around} {env : Env} {κ κ₁ ρ₁ : Rho} {α : Type} {t : Sem α} {g g₁ : Heap} {s s₁ : Shared} {O O₁ : Own} {Q : Rho → Rho → Own → Prop} (G : Gs Γ env g s κ O g₁ s₁ ρ₁ κ₁ O₁)
    (h : wpAny Γ.M A t (fun _ s' => ∃ g' ρ' κ' O', Gs Γ env g₁ s₁ κ₁ O₁ g' s' ρ' κ' O' ∧ Q ρ' κ' O') (fun _ _ => False) s₁) :
    wpAny Γ.M A t (fun _ s' => ∃ g' ρ' κ' O', Gs Γ env g s κ O g' s' ρ' κ' O' ∧ Q ρ' κ' O') (fun _ _ => False) s₁ :=
  As.use h fun _ _ _ _ _ _ a c => ⟨_, _, _, _, G.trans a, c⟩
noncomputable def Exs (Γ : Gam) (A : Around) (env : Env) (ρ κ : Rho) (O : Own) (t : Sem Flow) (Q : Fl → Rho → Rho → Own → Prop) : Prop :=
  ∀ g s, Okb Γ g s O → Frm env g s.heap O ρ κ → wpAny Γ.M A t (fun v s' => ∃ g' ρ' κ' O' f, Gs Γ env g s κ O g' s' ρ' κ' O' ∧ FlIn g' v f ∧ Q f ρ' κ' O') (fun _ _ => False) s
noncomputable abbrev Ss (Γ : Gam) (A : Around) (env : Env) (ρ κ : Rho) (O : Own) (l : List Stmt) (Q : Fl → Rho → Rho → Own → Prop) : Prop := Exs Γ A env ρ κ O (execs l env) Q
noncomputable abbrev S1 (Γ : Gam) (A : Around) (env : Env) (ρ κ : Rho) (O : Own) (st : Stmt) (Q : Fl → Rho → Rho → Own → Prop) : Prop := Exs Γ A env ρ κ O (exec st env) Q

inductive Put : Rho → Str → D → Rho → Prop
  | here {x : Str} {od : Option D} {r : Rho} {d : D} : Put ((x, od) :: r) x d ((x, some d) :: r)
  | there {x : Str} {p : Str × Option D} {r r' : Rho} {d : D} : Put r x d r' → Put (p :: r) x d (p :: r')
theorem Put.keys : ∀ {ρ ρ' : Rho} {x : Str} {d : D}, Put ρ x d ρ' → ρ'.map (·.1) = ρ.map (·.1)
  | _, _, _, _, .here => rfl
  | _, _, _, _, .there h => by rw [List.map_cons, List.map_cons, Put.keys h]
theorem Put.key : ∀ {ρ ρ' : Rho} {x : Str} {d : D}, Put ρ x d ρ' → x ∈ ρ.map (·.1)
  | _, _, _, _, .here => .head _
  | _, _, _, _, .there h => .tail _ h.key
theorem Put.mem : ∀ {ρ ρ' : Rho} {x : Str} {d : D}, Put ρ x d ρ' → (ρ.map (·.1)).Nodup → ∀ {y : Str} {oe : Option D}, (y, oe) ∈ ρ' → (y = x ∧ oe = some d) ∨ (y ≠ x ∧ (y, oe) ∈ ρ)
  | _, _, x, d, .here (r := r), hn, y, oe, h => by
    rw [List.map_cons, List.nodup_cons] at hn
    rcases List.mem_cons.mp h with q | q
    · cases q; exact .inl ⟨rfl, rfl⟩
    · exact .inr ⟨fun z => hn.1 (z ▸ List.mem_map_of_mem (f := (·.1)) q), .tail _ q⟩
  | _, _, x, d, .there (p := p) (r := r) h', hn, y, oe, h => by
    rw [List.map_cons, List.nodup_cons] at hn
    rcases List.mem_cons.mp h with q | q
    · cases q; exact .inr ⟨fun z => hn.1 (z ▸ h'.key), .head _⟩
    · rcases h'.mem hn.2 q with z | ⟨z, w⟩
      · exact .inl z
      · exact .inr ⟨z, .tail _ w⟩

noncomputable abbrev KSs (Γ : Gam) (A : Around) (env : Env) (rest : List Stmt) (Q : Fl → Rho → Rho → Own → Prop) : Fl → Rho → Rho → Own → Prop := fun f ρ κ O => match f with | .next => Ss Γ A env ρ κ O rest Q | f => Q f ρ κ O
noncomputable abbrev KPut (ρ : Rho) (x : Str) (d : D) (P : Rho → Prop) : Rho → Prop := fun ρ' => Put ρ x d ρ' ∧ P ρ'
noncomputable abbrev KNx (κ : Rho) (O : Own) (Q : Fl → Rho → Rho → Own → Prop) : Rho → Prop := fun ρ => Q .next ρ κ O
noncomputable abbrev KNc (ρ : Rho) (O : Own) (Q : Fl → Rho → Rho → Own → Prop) : Rho → Prop := fun κ => Q .next ρ κ O
noncomputable abbrev KAsL (ρ κ : Rho) (x : Str) (Q : Fl → Rho → Rho → Own → Prop) : D → Own → Prop := fun d O => Exists (KPut ρ x d (KNx κ O Q))
noncomputable abbrev KAsC (ρ κ : Rho) (x : Str) (Q : Fl → Rho → Rho → Own → Prop) : D → Own → Prop := fun d O => Exists (KPut κ x d (KNc ρ O Q))
noncomputable abbrev KRet (ρ κ : Rho) (Q : Fl → Rho → Rho → Own → Prop) : D → Own → Prop := fun d O => Q (.ret d) ρ κ O
noncomputable abbrev KIfS (Γ : Gam) (A : Around) (env : Env) (ρ κ : Rho) (x y : List Stmt) (Q : Fl → Rho → Rho → Own → Prop) : Bool → Own → Prop := fun b O => if b then Ss Γ A env ρ κ O x Q else Ss Γ A env ρ κ O y Q
noncomputable abbrev KExp (ρ κ : Rho) (Q : Fl → Rho → Rho → Own → Prop) : D → Own → Prop := fun d O => d = .none ∧ Q .next ρ κ O
section
variable {Γ : Gam} {A : Around} {env : Env} {ρ κ : Rho} {O : Own} {Q : Fl → Rho → Rho → Own → Prop}

theorem Exs.mono {t : Sem Flow} {Q' : Fl → Rho → Rho → Own → Prop} (h : Exs Γ A env ρ κ O t Q) (k : ∀ f ρ' κ' O', Q f ρ' κ' O' → Q' f ρ' κ' O') : Exs Γ A env ρ κ O t Q' := fun g s ok F =>
  wpAny_mono (h g s ok F) (fun _ _ hx2 => by obtain ⟨g', ρ', κ', O', f, a, b, c⟩ := hx2; exact ⟨g', ρ', κ', O', f, a, b, k _ _ _ _ c⟩) fun _ _ e => e
theorem Ss.nil (q : Q .next ρ κ O) : Ss Γ A env ρ κ O [] Q := fun g s ok F => wpAny_execs_nil ⟨g, ρ, κ, O, .next, .ofGo F (.refl ok), .next, q⟩
theorem Ss.cons {st : Stmt} {rest : List Stmt} (h : S1 Γ A env ρ κ O st (KSs Γ A env rest Q)) : Ss Γ A env ρ κ O (st :: rest) Q := fun g s ok F =>
  wpAny_execs_cons (Fx.use (h g s ok F) (fun v s₁ g₁ ρ₁ κ₁ O₁ f G hf q => by
    cases hf with
    | next => exact Fx.after G (q g₁ s₁ G.ok G.fr)
    | brk => exact ⟨g₁, ρ₁, κ₁, O₁, .brk, G, .brk, q⟩
    | cont => exact ⟨g₁, ρ₁, κ₁, O₁, .cont, G, .cont, q⟩
    | ret a => exact ⟨g₁, ρ₁, κ₁, O₁, .ret _, G, .ret a, q⟩))

theorem store_loc {g : Heap} {s : Shared} {x : Str} {v : Value} {d : D} {ρ' : Rho} {R : Unit → Shared → Prop} (ok : Okb Γ g s O) (F : Frm env g s.heap O ρ κ) (i : In g v d) (p : Put ρ x d ρ')
    (h : ∀ s', Gs Γ env g s κ O g s' ρ' κ O → R () s') : wpAny Γ.M A (storeName env x v) R (fun _ _ => False) s := by
  obtain ⟨m, hm, hr⟩ := F.loc
  obtain ⟨q, hq, hqx⟩ := List.mem_map.mp p.key
  have hl : env.kindOf x = some .local := hqx ▸ (F.lk q hq).1
  refine wpAny_storeName_local hl hm (fun h' hn hs => h _ ⟨ok.but hs F.gl F.lo _, ⟨F.kind, F.glob, F.bi, ⟨_, hn, fun y e hy => ?_⟩, fun r hr => ?_, by rw [p.keys]; exact F.nd, F.gl, F.lo, F.ck, fun r hr => ?_, F.cnd, F.cin⟩, .but hs (.inl rfl) _, .refl, rfl⟩) (by rw [F.kind]; rfl)
  · rcases p.mem F.nd hy with ⟨rfl, z⟩ | ⟨z, w⟩
    · cases z; exact ⟨v, by rw [if_pos rfl], i⟩
    · obtain ⟨u, a, b⟩ := hr y e w
      exact ⟨u, by rw [if_neg z]; exact a, b⟩
  · have : r.1 ∈ ρ.map (·.1) := p.keys ▸ List.mem_map_of_mem hr
    obtain ⟨r', hr', e⟩ := List.mem_map.mp this
    exact e ▸ F.lk r' hr'
  · obtain ⟨h1, ca, h2, h3, h4, h5, ov, hc, h6⟩ := F.cel r hr
    exact ⟨h1, ca, h2, h3, h4, h5, ov, hc.sameBut hs h5, h6⟩
theorem store_cel {g : Heap} {s : Shared} {x : Str} {v : Value} {d : D} {κ' : Rho} {R : Unit → Shared → Prop} (ok : Okb Γ g s O) (F : Frm env g s.heap O ρ κ) (i : In g v d) (p : Put κ x d κ') (hl : env.kindOf x = some .cell) (hf : env.func.isSome = true)
    (h : ∀ s', Gs Γ env g s κ O g s' ρ κ' O → R () s') : wpAny Γ.M A (storeName env x v) R (fun _ _ => False) s := by
  obtain ⟨m, hm, hr⟩ := F.loc
  obtain ⟨q, hq, rfl⟩ := List.mem_map.mp p.key
  obtain ⟨h1, ca, h2, h3, h4, h5, ov, hc, h6⟩ := F.cel q hq
  refine wpAny_storeName_cell F.kind hl h2 hc fun h' hn hs => h _ ⟨ok.but hs h3 h4 _, ⟨F.kind, F.glob, F.bi, ⟨m, hm.sameBut hs (Ne.symm h5), hr⟩, F.lk, F.nd, F.gl, F.lo, fun r hr => ?_, fun r hr => ?_, by rw [p.keys]; exact F.cnd, fun a ha b hb e => ?_⟩, .but hs (.inr (.inl ⟨hf, q.1, List.mem_map_of_mem hq, h2⟩)) _, .refl, p.keys⟩
  · have hk : r.1 ∈ κ.map (·.1) := p.keys ▸ List.mem_map_of_mem hr
    obtain ⟨r', hr', e⟩ := List.mem_map.mp hk
    exact e ▸ F.ck r' hr'
  · have hk : r.1 ∈ κ.map (·.1) := p.keys ▸ List.mem_map_of_mem hr
    rcases p.mem F.cnd (y := r.1) (oe := r.2) hr with ⟨z, w⟩ | ⟨z, w⟩
    · rw [z]
      refine ⟨h1, ca, h2, h3, h4, h5, some v, hn, fun e he => ?_⟩
      rw [w] at he; cases he; exact ⟨v, rfl, i⟩
    · obtain ⟨k1, cb, k2, k3, k4, k5, ow, kc, k6⟩ := F.cel _ w
      refine ⟨k1, cb, k2, k3, k4, k5, ow, kc.sameBut hs fun y => z ?_, k6⟩
      exact F.cin _ w q hq (by rw [k2, h2, y])
  · have ha' : a.1 ∈ κ.map (·.1) := p.keys ▸ List.mem_map_of_mem ha
    have hb' : b.1 ∈ κ.map (·.1) := p.keys ▸ List.mem_map_of_mem hb
    obtain ⟨a', ha', ea⟩ := List.mem_map.mp ha'
    obtain ⟨b', hb', eb⟩ := List.mem_map.mp hb'
    rw [← ea, ← eb] at e ⊢
    exact F.cin a' ha' b' hb' e

theorem S1.asL {x : Str} {p1 pos : Pos} {value : Expr} (h : Ev Γ A env ρ κ O value (KAsL ρ κ x Q)) (hs : swapsWith value (some (.Name x p1)) pos.line env = pure false) : S1 Γ A env ρ κ O (.Assign [.Name x p1] value pos) Q := fun g s ok F =>
  wpAny_Assign_Name (T.use (h g s ok F) (fun v s₁ g₁ O₁ d G₁ i hq9 => by obtain ⟨ρ', p, q⟩ := hq9; exact store_loc G₁.ok (F.go G₁) i p fun s' G' => ⟨g₁, ρ', κ, O₁, .next, (Gs.ofGo F G₁).trans G', .next, q⟩)) hs
theorem S1.asC {x : Str} {p1 pos : Pos} {value : Expr} (h : Ev Γ A env ρ κ O value (KAsC ρ κ x Q)) (hl : env.kindOf x = some .cell) (hf : env.func.isSome = true) (hs : swapsWith value (some (.Name x p1)) pos.line env = pure false) : S1 Γ A env ρ κ O (.Assign [.Name x p1] value pos) Q := fun g s ok F =>
  wpAny_Assign_Name (T.use (h g s ok F) (fun v s₁ g₁ O₁ d G₁ i hq9 => by obtain ⟨ρ', p, q⟩ := hq9; exact store_cel G₁.ok (F.go G₁) i p hl hf fun s' G' => ⟨g₁, ρ, ρ', O₁, .next, (Gs.ofGo F G₁).trans G', .next, q⟩)) hs
theorem S1.ret {e : Expr} {pos : Pos} (h : Ev Γ A env ρ κ O e (KRet ρ κ Q)) : S1 Γ A env ρ κ O (.Return (some e) pos) Q := fun g s ok F =>
  wpAny_Return_some (T.use (h g s ok F) (fun v s₁ g₁ O₁ d G₁ i q => ⟨g₁, ρ, κ, O₁, .ret d, .ofGo F G₁, .ret i, q⟩))
theorem S1.ite {test : Expr} {body orelse : List Stmt} {pos : Pos} (h : Te Γ A env ρ κ O test (KIfS Γ A env ρ κ body orelse Q)) : S1 Γ A env ρ κ O (.If test body orelse pos) Q := fun g s ok F =>
  wpAny_If (T.use (h g s ok F) (fun b s₁ g₁ O₁ d G₁ i q => by
    subst i
    cases b <;> exact Fx.after (Gs.ofGo F G₁) (q g₁ s₁ G₁.ok (F.go G₁))))
theorem S1.brk {pos : Pos} (q : Q .brk ρ κ O) : S1 Γ A env ρ κ O (.Break pos) Q := fun g s ok F => wpAny_Break ⟨g, ρ, κ, O, .brk, .ofGo F (.refl ok), .brk, q⟩
end
end Lw
end
section
namespace Lw
open PySem PySem.Calls PyProof.Rows PySem.W

noncomputable def CT (Γ : Gam) (A : Around) (c : Code) (g : Heap) (s : Shared) (O : Own) (Q : D → Own → Prop) : Prop :=
  codeAny Γ.M A c (fun r s' => match r with | .ok (.ret v) => ∃ g' O' d, Go Γ g s O g' s' O' ∧ In g' v d ∧ Q d O' | .ok _ => False | .error _ => False) s
theorem CT.map {Γ : Gam} {A : Around} {c : Code} {g : Heap} {s : Shared} {O O₁ : Own} {Q Q₁ : D → Own → Prop} (h : CT Γ A c g s O₁ Q₁) (k : ∀ v s' g' O' d, Go Γ g s O₁ g' s' O' → In g' v d → Q₁ d O' → ∃ g' O' d, Go Γ g s O g' s' O' ∧ In g' v d ∧ Q d O') : CT Γ A c g s O Q :=
  codeAny_mono h fun r s' x => by
    rcases r with e | (_ | _ | _ | v)
    · exact x
    · exact x
    · exact x
    · exact x
    · obtain ⟨g', O', d, a, b, c⟩ := x
      exact k v s' g' O' d a b c
theorem CT.call {Γ : Gam} {A : Around} {f : Value} {vs : List Value} {kw : List (Str × Value)} {g : Heap} {s : Shared} {O : Own} {Q : D → Own → Prop} (h : CT Γ A (.call f ⟨vs, kw⟩) g s O Q) : T Γ A (call f vs kw) In g s O Q :=
  wpAny_call h
noncomputable def Cal (Γ : Gam) (n : Nat) (f : Value) (ds : List D) (kws : List (Str × D)) (O : Own) (Q : D → Own → Prop) : Prop :=
  ∀ A g s vs ks, Room A n → Okb Γ g s O → InL g vs ds → InL g ks (kws.map (·.2)) → CT Γ A (.call f ⟨vs, (kws.map (·.1)).zip ks⟩) g s O Q
theorem Cal.mono {Γ : Gam} {n : Nat} {f : Value} {ds : List D} {kws : List (Str × D)} {O : Own} {Q Q' : D → Own → Prop} (h : Cal Γ n f ds kws O Q) (k : ∀ d O', Q d O' → Q' d O') : Cal Γ n f ds kws O Q' :=
  fun A g s vs ks r ok i j => (h A g s vs ks r ok i j).map fun v s' g' O' d a b c => ⟨g', O', d, a, b, k _ _ c⟩

theorem Okb.perm {Γ : Gam} {g : Heap} {s : Shared} {O P : Own} (h : Okb Γ g s O) (p : O.Perm P) : Okb Γ g s P :=
  ⟨h.keep, h.gam, fun q hq => h.own q (p.mem_iff.mpr hq), (p.map (·.1)).nodup_iff.mp h.nd, h.gens, h.os⟩
theorem Okb.left {Γ : Gam} {g : Heap} {s : Shared} {O P : Own} (h : Okb Γ g s (O ++ P)) : Okb Γ g s O :=
  ⟨h.keep, h.gam, fun q hq => h.own q (List.mem_append_left _ hq), by have := h.nd; rw [List.map_append] at this; exact (List.nodup_append.mp this).1, h.gens, h.os⟩
theorem Go.frame {Γ : Gam} {g g' : Heap} {s s' : Shared} {O O' P : Own} (ok : Okb Γ g s (O ++ P)) (G : Go Γ g s O g' s' O') : Go Γ g s (O ++ P) g' s' (O' ++ P) := by
  have nd := ok.nd
  rw [List.map_append] at nd
  obtain ⟨n1, n2, n3⟩ := List.nodup_append.mp nd
  have off : ∀ p ∈ P, ¬ dom O p.1 := fun p hp x => n3 _ x _ (List.mem_map_of_mem hp) rfl
  refine ⟨⟨G.ok.keep, G.ok.gam, fun p hp => ?_, ?_, G.ok.gens, G.ok.os⟩, G.to.weak fun b x => .inl (by show b ∈ (O ++ P).map (·.1); rw [List.map_append]; exact List.mem_append_left _ x), fun b x => ?_⟩
  · rcases List.mem_append.mp hp with q | q
    · exact G.ok.own p q
    · obtain ⟨a, b⟩ := ok.own p (List.mem_append_right _ q)
      obtain ⟨o, ho⟩ := a.there
      exact ⟨(a.same (by rw [G.to.pres _ _ ho (off p q), ho])).up G.to.up, G.to.none ho (off p q) b⟩
  · rw [List.map_append]
    refine List.nodup_append.mpr ⟨G.ok.nd, n2, fun a ha b hb e => ?_⟩
    subst e
    obtain ⟨p, hp, rfl⟩ := List.mem_map.mp hb
    rcases G.wi _ ha with z | z
    · exact off p hp z
    · obtain ⟨o, ho⟩ := (ok.own p (List.mem_append_right _ hp)).1.there
      rw [ho] at z; cases z
  · have x : b ∈ (O' ++ P).map (·.1) := x
    rw [List.map_append] at x
    rcases List.mem_append.mp x with q | q
    · exact (G.wi b q).imp (fun z => by show b ∈ (O ++ P).map (·.1); rw [List.map_append]; exact List.mem_append_left _ z) id
    · exact .inl (by show b ∈ (O ++ P).map (·.1); rw [List.map_append]; exact List.mem_append_right _ q)
theorem Go.perm {Γ : Gam} {g g' : Heap} {s s' : Shared} {O O' P : Own} (p : O.Perm P) (G : Go Γ g s O g' s' O') : Go Γ g s P g' s' O' :=
  ⟨G.ok, G.to.weak fun b x => .inl ((p.map (·.1)).mem_iff.mp x), fun b x => (G.wi b x).imp (fun z => (p.map (·.1)).mem_iff.mp z) id⟩
theorem CT.frame {Γ : Gam} {A : Around} {c : Code} {g : Heap} {s : Shared} {O P : Own} {Q Q' : D → Own → Prop} (ok : Okb Γ g s (O ++ P)) (h : CT Γ A c g s O Q) (k : ∀ d O', Q d O' → Q' d (O' ++ P)) : CT Γ A c g s (O ++ P) Q' :=
  h.map fun v s' g' O' d a b c => ⟨g', O' ++ P, d, a.frame ok, b, k _ _ c⟩
theorem Cal.frame {Γ : Gam} {n : Nat} {f : Value} {ds : List D} {kws : List (Str × D)} {O P : Own} {Q Q' : D → Own → Prop} (h : Cal Γ n f ds kws O Q) (k : ∀ d O', Q d O' → Q' d (O' ++ P)) : Cal Γ n f ds kws (O ++ P) Q' := fun A g s vs ks r ok i j =>
  CT.frame ok (h A g s vs ks r ok.left i j) k
theorem Cal.perm {Γ : Gam} {n : Nat} {f : Value} {ds : List D} {kws : List (Str × D)} {O P : Own} {Q : D → Own → Prop} (p : O.Perm P) (h : Cal Γ n f ds kws O Q) : Cal Γ n f ds kws P Q := fun A g s vs ks r ok i j =>
  (h A g s vs ks r (ok.perm p.symm) i j).map fun v s' g' O' d a b c => ⟨g', O', d, a.perm p, b, c⟩
theorem Cal.pure {Γ : Gam} {n : Nat} {f : Value} {ds : List D} {kws : List (Str × D)} {O : Own} {Q Q' : D → Own → Prop} (h : Cal Γ n f ds kws [] Q) (k : ∀ d O', Q d O' → O' = [] ∧ Q' d O) : Cal Γ n f ds kws O Q' :=
  Cal.frame (O := []) (P := O) h fun d O' q => by
    rw [(k d O' q).1]; exact (k d O' q).2

noncomputable def rho0 (names : List (Str × NameKind)) (b : List (Str × D)) : Rho := names.filterMap fun x => if x.2 = .local then some (x.1, b.lookup x.1) else none
noncomputable def kap0 (names : List (Str × NameKind)) (b : List (Str × D)) : Rho := names.filterMap fun x => if x.2 = .cell then some (x.1, b.lookup x.1) else none

theorem mem_rho0 {names : List (Str × NameKind)} {b : List (Str × D)} {x : Str} {od : Option D} (h : (x, od) ∈ rho0 names b) : (x, NameKind.local) ∈ names ∧ b.lookup x = od := by
  obtain ⟨p, hp, e⟩ := List.mem_filterMap.mp h
  split at e
  · rename_i q
    cases e
    exact ⟨by rw [← q]; exact hp, rfl⟩
  · cases e
theorem mem_kap0 {names : List (Str × NameKind)} {b : List (Str × D)} {x : Str} {od : Option D} (h : (x, od) ∈ kap0 names b) : (x, NameKind.cell) ∈ names ∧ b.lookup x = od := by
  obtain ⟨p, hp, e⟩ := List.mem_filterMap.mp h
  split at e
  · rename_i q
    cases e
    exact ⟨by rw [← q]; exact hp, rfl⟩
  · cases e
theorem filterMap_keys {names : List (Str × NameKind)} {f : Str × NameKind → Option (Str × Option D)} (hf : ∀ x y, f x = some y → y.1 = x.1) (hn : (names.map (·.1)).Nodup) : ((names.filterMap f).map (·.1)).Nodup := by
  induction names with
  | nil => exact List.nodup_nil
  | cons x r ih =>
    rw [List.map_cons, List.nodup_cons] at hn
    rw [List.filterMap_cons]
    split
    · exact ih hn.2
    · rename_i y e
      rw [List.map_cons, List.nodup_cons]
      refine ⟨fun hm => ?_, ih hn.2⟩
      obtain ⟨q, hq, e'⟩ := List.mem_map.mp hm
      obtain ⟨p, hp, e''⟩ := List.mem_filterMap.mp hq
      rw [hf _ _ e, hf _ _ e''] at *
      exact hn.1 (e' ▸ List.mem_map_of_mem (f := (·.1)) hp)
theorem lookup_of_mem {α : Type} : ∀ {l : List (Str × α)} {x : Str} {k : α}, (l.map (·.1)).Nodup → (x, k) ∈ l → l.lookup x = some k
  | (y, j) :: r, x, k, hn, h => by
    rw [List.map_cons, List.nodup_cons] at hn
    rw [List.lookup_cons]
    rcases List.mem_cons.mp h with q | q
    · cases q; simp
    · have : x ≠ y := fun e => hn.1 (e ▸ List.mem_map_of_mem (f := (·.1)) q)
      rw [show (x == y) = false from beq_eq_false_iff_ne.mpr this]
      exact lookup_of_mem hn.2 q
theorem zip_get {g : Heap} : ∀ {ps : List Str} {vs : List Value} {ds : List D}, InL g vs ds → ∀ {x : Str} {d : D}, (ps.zip ds).lookup x = some d → ∃ v, (ps.zip vs).lookup x = some v ∧ In g v d
  | [], _, _, _, x, d, e => by simp at e
  | p :: ps, _, _, .nil, x, d, e => by simp at e
  | p :: ps, _, _, .cons a r, x, d, e => by
    rw [List.zip_cons_cons, List.lookup_cons] at e ⊢
    cases q : x == p with
    | true => rw [q] at e; cases e; exact ⟨_, rfl, a⟩
    | false => rw [q] at e; exact zip_get r e
theorem zip_keys {α : Type} : ∀ {ps : List Str} {vs : List α}, ps.Nodup → ((ps.zip vs).map (·.1)).Nodup
  | [], _, _ => by simp
  | p :: ps, [], _ => by simp
  | p :: ps, v :: vs, h => by
    rw [List.nodup_cons] at h
    rw [List.zip_cons_cons, List.map_cons, List.nodup_cons]
    refine ⟨fun hm => ?_, zip_keys h.2⟩
    obtain ⟨q, hq, e⟩ := List.mem_map.mp hm
    exact h.1 (by rw [show p = q.1 from e.symm]; exact (List.of_mem_zip (a := q.1) (b := q.2) hq).1)
theorem bindL_at {kindOf : Str → Option NameKind} {x : Str} (hx : kindOf x = some .local) : ∀ {b : List (Str × Value)} {m : Str → Option Value}, (b.map (·.1)).Nodup → bindL kindOf b m x = (b.lookup x).or (m x)
  | [], m, _ => rfl
  | (n, v) :: r, m, hn => by
    rw [List.map_cons, List.nodup_cons] at hn
    rw [bindL, bindL_at hx hn.2, List.lookup_cons]
    by_cases e : x = n
    · subst e
      have : r.lookup x = none := by
        cases q : r.lookup x with
        | none => rfl
        | some v => exact absurd (List.mem_map_of_mem (f := (·.1)) (mem_of_lookup q)) hn.1
      rw [this, if_pos hx]; simp
    · rw [show (x == n) = false from beq_eq_false_iff_ne.mpr e]
      split <;> simp [e]
theorem bindC_at {kindOf : Str → Option NameKind} {x : Str} (hx : kindOf x = some .cell) : ∀ {b : List (Str × Value)} {m : Str → Option Value}, (b.map (·.1)).Nodup → bindC kindOf b m x = (b.lookup x).or (m x)
  | [], m, _ => rfl
  | (n, v) :: r, m, hn => by
    rw [List.map_cons, List.nodup_cons] at hn
    rw [bindC, bindC_at hx hn.2, List.lookup_cons]
    by_cases e : x = n
    · subst e
      have : r.lookup x = none := by
        cases q : r.lookup x with
        | none => rfl
        | some v => exact absurd (List.mem_map_of_mem (f := (·.1)) (mem_of_lookup q)) hn.1
      rw [this, if_neg (by rw [hx]; decide)]; simp
    · rw [show (x == n) = false from beq_eq_false_iff_ne.mpr e]
      split <;> simp [e]
theorem cellsFrom_some : ∀ {names : List (Str × NameKind)} {n : Nat} {acc : List (Str × Addr)} {x : Str}, ((x, NameKind.cell) ∈ names ∨ (acc.lookup x).isSome = true) → ((cellsFrom n names acc).lookup x).isSome = true
  | [], n, acc, x, h => by
    rcases h with h | h
    · cases h
    · exact h
  | (y, k) :: r, n, acc, x, h => by
    unfold cellsFrom
    split
    · rename_i hk
      refine cellsFrom_some ?_
      rcases h with h | h
      · rcases List.mem_cons.mp h with q | q
        · cases q; exact .inr (by simp)
        · exact .inl q
      · refine .inr ?_
        rw [List.lookup_cons]
        cases x == y <;> simp [h]
    · rename_i hk
      refine cellsFrom_some ?_
      rcases h with h | h
      · rcases List.mem_cons.mp h with q | q
        · cases q; exact absurd rfl hk
        · exact .inl q
      · exact .inr h

inductive RetOf : Fl → D → Prop
  | ret {d : D} : RetOf (.ret d) d
  | next : RetOf .next .none

theorem Room.deep {A : Around} {env : Env} {n : Nat} (h : Room A (n + 1)) : Room (A.deeper env) n := ⟨h.h, by have := h.d; show A.depth + 1 + n < 990; exact om_154 this, by have := h.u; show A.units + 3 + 8 * n + 300 < cLine; exact om_179 this⟩

theorem Cal.intro {Γ : Gam} {n : Nat} {f : Addr} {ds : List D} {kws : List (Str × D)} {O : Own} {Q : D → Own → Prop} {oc : Value} {od : Option Addr} {osl : Array (Option Value)} {fd : FuncData} {body : List Stmt} {params : List Str} {bds : List D} (ρ₀ κ₀ : Rho)
    (hk : Γ.K.lookup f = some ⟨oc, od, .func fd, osl⟩) (hcd : codeIn Γ.K fd.code fd.qualname = true) (hb : fd.body = .stmts body)
    (hfix : fd.closure = [] ∧ fd.globals = mainGlobals ∧ fd.builtins = builtinsNs ∧ fd.scope.isCoroutine = false ∧ fd.scope.isGenerator = false ∧ fd.scope.kind = .function)
    (hbind : ∀ g s vs ks, Okb Γ g s O → InL g vs ds → InL g ks (kws.map (·.2)) → ∃ bvs, BindsTo s fd ⟨vs, (kws.map (·.1)).zip ks⟩ (params.zip bvs) ∧ InL g bvs bds)
    (hdb : (fd.scope.names.all fun x => (!(x.2 == .local) && !(x.2 == .cell)) || (!(x.1 == ("__debug__" : Str)) && !(x.1 == ("__classdict__" : Str)))) = true) (hn : (fd.scope.names.map (·.1)).Nodup) (hp : params.Nodup) (hpk : ∀ p ∈ params, (p, NameKind.local) ∈ fd.scope.names ∨ (p, NameKind.cell) ∈ fd.scope.names)
    (hρ : rho0 fd.scope.names (params.zip bds) = ρ₀) (hκ : kap0 fd.scope.names (params.zip bds) = κ₀)
    (h : ∀ A L, Room A n → Ss Γ A (callEnvC fd L f) ρ₀ κ₀ O body fun fl _ _ O' => ∃ d, RetOf fl d ∧ Q d O') :
    Cal Γ (n + 1) (.ref f) ds kws O Q := by
  subst hρ hκ
  intro A g s vs ks room ok iv ik
  obtain ⟨f1, f2, f3, f4, f5, f6⟩ := hfix
  obtain ⟨bvs, hB, ib⟩ := hbind g s vs ks ok iv ik
  have kin : Γ.K.In s.heap := fun a o e => ok.keep _ _ (ok.gam.kin a o e)
  have hL : g.get? s.heap.objs.size = none := by
    cases q : g.get? s.heap.objs.size with
    | none => rfl
    | some o => exact absurd (Heap.lt_size (ok.keep _ _ q)) (Nat.lt_irrefl _)
  have hnew : ∀ b, s.heap.objs.size ≤ b → g.get? b = none := fun b hb => by
    cases q : g.get? b with
    | none => rfl
    | some o => exact absurd (Heap.lt_size (ok.keep _ _ q)) (Nat.not_lt.mpr hb)
  have hfree : ∀ b, s.heap.objs.size ≤ b → s.heap.get? b = none := fun b hb => by
    cases q : s.heap.get? b with
    | none => rfl
    | some o => exact absurd (Heap.lt_size q) (Nat.not_lt.mpr hb)
  have hoff : ∀ b, s.heap.objs.size ≤ b → ¬ dom O b := fun b hb hm => by
    obtain ⟨p, hp, rfl⟩ := List.mem_map.mp hm
    obtain ⟨o, ho⟩ := (ok.own p hp).1.there
    exact absurd (Heap.lt_size ho) (Nat.not_lt.mpr hb)
  refine (codeAny_call_function (show A.depth < recursionLimit by have := room.d; unfold recursionLimit; exact om_178 this) (kin _ _ hk) rfl f4 f5 hb (codeRec_of kin hcd) (hB _ _ _ _ ?_))
  rw [f1]
  refine wpAny_newFunctionEnv_cells f6 (fun x hx => ?_) fun env he s₁ x => ?_
  · have hx1 : x.1 ∈ params := (List.of_mem_zip hx).1
    rcases hpk _ hx1 with z | z
    · exact .inl (lookup_of_mem hn z)
    · exact .inr ⟨lookup_of_mem hn z, cellsFrom_some (.inl z)⟩
  · have he' : env = callEnvC fd s.heap.objs.size f := he
    subst he'
    obtain ⟨h₁, tk, es⟩ := x.toInCall.same
    have k1 := x.toInCall.keep
    have hkind : ∀ y k, (y, k) ∈ fd.scope.names → (callEnvC fd s.heap.objs.size f).kindOf y = some k := fun y k hy => lookup_of_mem hn hy
    have ok₁ : Okb Γ g s₁ O := by
      refine ⟨ok.keep.trans k1, ok.gam, fun p hp => ?_, ok.nd, by rw [es]; exact ok.gens, by rw [es]; exact ok.os⟩
      obtain ⟨a, b⟩ := ok.own p hp
      obtain ⟨o, ho⟩ := a.there
      exact ⟨a.same (by rw [k1 _ _ ho, ho]), b⟩
    have F₁ : Frm (callEnvC fd s.heap.objs.size f) g s₁.heap O (rho0 fd.scope.names (params.zip bds)) (kap0 fd.scope.names (params.zip bds)) := by
      have hdbg : ∀ x k, (x, k) ∈ fd.scope.names → (k = .local ∨ k = .cell) → (x == ("__debug__" : Str)) = false ∧ (x == ("__classdict__" : Str)) = false := fun x k hx hk => by
        have := List.all_eq_true.mp hdb _ hx
        rcases hk with rfl | rfl <;> simpa using this
      refine ⟨f6, f2, f3, ⟨_, x.toInCall.ns, fun y d hy => ?_⟩, fun p hp => ?_, ?_, hL, hoff _ (Nat.le_refl _), fun p hp => hdbg _ _ (mem_kap0 (x := p.1) (od := p.2) hp).1 (.inr rfl), fun p hp => ?_, ?_, fun p hp q hq e => ?_⟩
      · obtain ⟨z1, z2⟩ := mem_rho0 hy
        obtain ⟨v, a, b⟩ := zip_get ib z2
        exact ⟨v, by rw [bindL_at (hkind _ _ z1) (zip_keys hp), a]; rfl, b⟩
      · exact ⟨hkind _ _ (mem_rho0 (x := p.1) (od := p.2) hp).1, (hdbg _ _ (mem_rho0 (x := p.1) (od := p.2) hp).1 (.inl rfl)).1⟩
      · exact filterMap_keys (fun a b e => by split at e <;> cases e; rfl) hn
      · obtain ⟨z1, z2⟩ := mem_kap0 (x := p.1) (od := p.2) hp
        refine ⟨.inl (hkind _ _ z1), ?_⟩
        have hs : (((callEnvC fd s.heap.objs.size f).cells).lookup p.1).isSome = true := cellsFrom_some (.inl z1)
        obtain ⟨ca, hca⟩ := Option.isSome_iff_exists.mp hs
        have hab := x.above _ _ (mem_of_lookup hca)
        have hle : s.heap.objs.size ≤ ca := Nat.le_of_lt hab
        refine ⟨ca, hca, hnew _ hle, hoff _ hle, Nat.ne_of_gt hab, _, x.cell _ _ hca, fun d hd => ?_⟩
        obtain ⟨v, a, b⟩ := zip_get ib (z2.trans hd)
        exact ⟨v, by rw [bindC_at (hkind _ _ z1) (zip_keys ‹params.Nodup›), a]; rfl, b⟩
      · exact filterMap_keys (fun a b e => by split at e <;> cases e; rfl) hn
      · obtain ⟨z1, _⟩ := mem_kap0 (x := p.1) (od := p.2) hp
        have hs : (((callEnvC fd s.heap.objs.size f).cells).lookup p.1).isSome = true := cellsFrom_some (.inl z1)
        obtain ⟨ca, hca⟩ := Option.isSome_iff_exists.mp hs
        have hq' := e ▸ hca
        exact name_of_addr x.apart (mem_of_lookup hca) (mem_of_lookup hq')
    refine ⟨ok.gam.nl.keeps (ok.keep.trans k1), codeAny_func ?_⟩
    refine Fx.use (h _ _ room.deep g s₁ ok₁ F₁) (fun fl s₂ g₂ ρ₂ κ₂ O₂ q G hq hq9 => ?_)
    obtain ⟨d, r, hQ⟩ := hq9
    have to₁ : To g s (dom O) g s₁ := ⟨fun b o e _ => k1 b o e, Sub.refl _, fun b o e z => by rw [z] at e; cases e⟩
    have Gf : Go Γ g s O g₂ s₂ O₂ := by
      refine ⟨G.ok, to₁.trans G.to fun b hb => ?_, wi_trans .refl to₁ G.wi fun _ h => .inl h⟩
      rcases hb with hb | hb | hb
      · exact .inr (hfree _ (Nat.le_of_eq hb.symm))
      · obtain ⟨_, y, hy, hl⟩ := hb
        exact .inr (hfree _ (Nat.le_of_lt (x.above _ _ (mem_of_lookup hl))))
      · exact .inl hb
    cases r with
    | ret => cases hq with | ret i => exact ⟨g₂, O₂, _, Gf, i, hQ⟩
    | next => cases hq; exact ⟨g₂, O₂, _, Gf, .none, hQ⟩
end Lw
end
section
namespace Lw
open PySem PySem.Calls PyProof.Rows PySem.W

noncomputable def freedObj : Obj := { cls := .none, data := .freed }
noncomputable def mask (h : Heap) (p : Nat → Bool) : Heap := ⟨h.objs.mapIdx fun i o => if p i then o else freedObj, h.life⟩
theorem mask_get (h : Heap) (p : Nat → Bool) (b : Addr) : (mask h p).get? b = if p b then h.get? b else none := by
  unfold mask Heap.get?
  simp only [Array.getElem?_mapIdx]
  cases q : h.objs[b]? with
  | none => simp
  | some o =>
    simp only [Option.map_some]
    cases p b <;> simp [freedObj]
theorem grow {g h : Heap} {a : Addr} {o : Obj} (k : Sub g h) (e : h.get? a = some o) : ∃ g', Sub g g' ∧ g'.get? a = some o ∧ Sub g' h ∧ ∀ b, b ≠ a → g'.get? b = g.get? b := by
  refine ⟨mask h fun b => (g.get? b).isSome || b == a, fun b o' q => ?_, ?_, fun b o' q => ?_, fun b hb => ?_⟩
  · rw [mask_get, q]; simp [k b o' q]
  · rw [mask_get]; simp [e]
  · rw [mask_get] at q
    split at q
    · exact q
    · cases q
  · rw [mask_get]
    cases q : g.get? b with
    | none => simp [hb]
    | some o' => simp [k b o' q]

section
variable {Γ : Gam} {A : Around} {O : Own}
theorem Go.alloc {g : Heap} {s : Shared} {o : Obj} (ok : Okb Γ g s O) (hf : o.isFreed = false) : ∃ g', Go Γ g s O g' { s with heap := s.heap.push o } O ∧ g'.get? s.heap.objs.size = some o := by
  have kp : Sub s.heap (s.heap.push o) := fun b o' e => Heap.get?_push_of_some _ e
  have ha : (s.heap.push o).get? s.heap.objs.size = some o := Heap.get?_push_size _ hf
  obtain ⟨g', k1, k2, k3, k4⟩ := grow (ok.keep.trans kp) ha
  have off : ∀ p ∈ O, p.1 ≠ s.heap.objs.size := fun p hp e => by
    obtain ⟨o', ho⟩ := (ok.own p hp).1.there
    exact absurd (Heap.lt_size ho) (by rw [e]; exact Nat.lt_irrefl _)
  refine ⟨g', ⟨⟨k3, ok.gam.up k1, fun p hp => ?_, ok.nd, ok.gens, ok.os⟩, ⟨fun b o' e _ => kp b o' e, k1, fun b o' e n => ?_⟩, .refl⟩, k2⟩
  · obtain ⟨a, b⟩ := ok.own p hp
    obtain ⟨o', ho⟩ := a.there
    exact ⟨(a.same (by rw [kp _ _ ho, ho])).up k1, by rw [k4 _ (off p hp)]; exact b⟩
  · by_cases q : b = s.heap.objs.size
    · refine .inl ?_
      cases z : s.heap.get? b with
      | none => rfl
      | some o' => exact absurd (Heap.lt_size z) (by rw [q]; exact Nat.lt_irrefl _)
    · rw [k4 b q, n] at e; cases e
theorem Go.allocO {g : Heap} {s : Shared} {o : Obj} {c : Cont} (ok : Okb Γ g s O) (hf : o.isFreed = false) (hc : Holds g (s.heap.push o) s.heap.objs.size c) : Go Γ g s O g { s with heap := s.heap.push o } ((s.heap.objs.size, c) :: O) := by
  have kp : Sub s.heap (s.heap.push o) := fun b o' e => Heap.get?_push_of_some _ e
  have off : ∀ p ∈ O, p.1 ≠ s.heap.objs.size := fun p hp e => by
    obtain ⟨o', ho⟩ := (ok.own p hp).1.there
    exact absurd (Heap.lt_size ho) (by rw [e]; exact Nat.lt_irrefl _)
  refine ⟨⟨ok.keep.trans kp, ok.gam, fun p hp => ?_, ?_, ok.gens, ok.os⟩, ⟨fun b o' e _ => kp b o' e, Sub.refl _, fun b o' e n => by rw [n] at e; cases e⟩, fun b hb => ?_⟩
  · rcases List.mem_cons.mp hp with rfl | hp
    · refine ⟨hc, ?_⟩
      cases q : g.get? s.heap.objs.size with
      | none => rfl
      | some o' => exact absurd (Heap.lt_size (ok.keep _ _ q)) (Nat.lt_irrefl _)
    · obtain ⟨a, b⟩ := ok.own p hp
      obtain ⟨o', ho⟩ := a.there
      exact ⟨a.same (by rw [kp _ _ ho, ho]), b⟩
  · rw [List.map_cons, List.nodup_cons]
    refine ⟨fun hm => ?_, ok.nd⟩
    obtain ⟨p, hp, e⟩ := List.mem_map.mp hm
    exact off p hp e
  · have hb : b ∈ s.heap.objs.size :: O.map (·.1) := hb
    rcases List.mem_cons.mp hb with q | q
    · refine .inr ?_
      cases z : s.heap.get? b with
      | none => rfl
      | some o' => exact absurd (Heap.lt_size z) (by rw [q]; exact Nat.lt_irrefl _)
    · exact .inl q
theorem Go.freeze {g : Heap} {s : Shared} {a : Addr} {ds : List D} (ok : Okb Γ g s ((a, .list ds) :: O)) : ∃ g', Go Γ g s ((a, .list ds) :: O) g' s O ∧ In g' (.ref a) (.lst ds) := by
  obtain ⟨⟨vs, n, e, i⟩, hn⟩ := ok.own _ (.head _)
  obtain ⟨g', k1, k2, k3, k4⟩ := grow ok.keep e
  have nd := ok.nd
  rw [List.map_cons, List.nodup_cons] at nd
  have off : ∀ p ∈ O, p.1 ≠ a := fun p hp q => nd.1 (q ▸ List.mem_map_of_mem (f := (·.1)) hp)
  refine ⟨g', ⟨⟨k3, ok.gam.up k1, fun p hp => ?_, nd.2, ok.gens, ok.os⟩, ⟨fun b o' e _ => e, k1, fun b o' e n => ?_⟩, fun b hb => .inl (.tail _ hb)⟩, .lst k2 (i.up k1)⟩
  · obtain ⟨x, y⟩ := ok.own p (.tail _ hp)
    exact ⟨x.up k1, by rw [k4 _ (off p hp)]; exact y⟩
  · by_cases q : b = a
    · exact .inr (by rw [q]; exact .head _)
    · rw [k4 b q, n] at e; cases e
end

noncomputable def Evs (Γ : Gam) (A : Around) (env : Env) (ρ κ : Rho) (O : Own) (l : List Expr) (Q : List D → Own → Prop) : Prop :=
  ∀ pos g s, Okb Γ g s O → Frm env g s.heap O ρ κ → T Γ A (spliced (backTo pos (starEach l env))) InL g s O Q
noncomputable def EvK (Γ : Gam) (A : Around) (env : Env) (ρ κ : Rho) (O : Own) (l : List Keyword) (Q : List D → Own → Prop) : Prop :=
  ∀ pos g s, Okb Γ g s O → Frm env g s.heap O ρ κ → T Γ A (evalAll ((backToKw pos (keywordEach l env)).map (·.2))) InL g s O Q
noncomputable def Ca (Γ : Gam) (A : Around) (O : Own) (f : Value) (ds : List D) (kws : List (Str × D)) (Q : D → Own → Prop) : Prop :=
  ∀ g s vs ks, Okb Γ g s O → InL g vs ds → InL g ks (kws.map (·.2)) → T Γ A (call f vs ((kws.map (·.1)).zip ks)) In g s O Q
noncomputable def Kp (Γ : Gam) (f : Value) : Prop := ∀ h, Γ.K.In h → ∃ k, (k = Keeper.frame ∨ k = Keeper.machine ∨ k = Keeper.boundFrame) ∧ Looks Γ.M h (keeperOf f) k
theorem Kp.bui {Γ : Gam} {id : String} : Kp Γ (.builtin id) := fun _ _ => ⟨.machine, .inr (.inl rfl), Looks.of_pure rfl⟩
theorem Kp.typ {Γ : Gam} {id : String} : Kp Γ (.type id) := fun _ _ => ⟨.machine, .inr (.inl rfl), Looks.of_pure rfl⟩
theorem Kp.fn {Γ : Gam} {f : Value} (h : keepIn Γ.K f = true) : Kp Γ f := keeps_K h

noncomputable abbrev KEs2 (d : D) (Q : List D → Own → Prop) : List D → Own → Prop := fun ds O => Q (d :: ds) O
noncomputable abbrev KEs (Γ : Gam) (A : Around) (env : Env) (ρ κ : Rho) (rest : List Expr) (Q : List D → Own → Prop) : D → Own → Prop := fun d O => Evs Γ A env ρ κ O rest (KEs2 d Q)
noncomputable abbrev KOne (Q : List D → Own → Prop) : D → Own → Prop := fun d O => Q [d] O
noncomputable abbrev KCa (Γ : Gam) (A : Around) (f : Value) (fd : List D) (Q : D → Own → Prop) : List D → Own → Prop := fun ds O => Ca Γ A O f (fd ++ ds) [] Q
noncomputable abbrev KCa0 (Γ : Gam) (A : Around) (f : Value) (Q : D → Own → Prop) : List D → Own → Prop := fun ds O => Ca Γ A O f ds [] Q
noncomputable abbrev KCl2 (Γ : Gam) (A : Around) (env : Env) (ρ κ : Rho) (args : List Expr) (Q : D → Own → Prop) (d : D) (O : Own) : Value → Prop := fun f => d = .v f ∧ Kp Γ f ∧ Evs Γ A env ρ κ O args (KCa0 Γ A f Q)
noncomputable abbrev KCl (Γ : Gam) (A : Around) (env : Env) (ρ κ : Rho) (args : List Expr) (Q : D → Own → Prop) : D → Own → Prop := fun d O => Exists (KCl2 Γ A env ρ κ args Q d O)
noncomputable abbrev KTup (Q : D → Own → Prop) : List D → Own → Prop := fun ds O => ds.length ≤ sizeLine ∧ Q (.tup ds) O
noncomputable abbrev KLst (Q : D → Own → Prop) : List D → Own → Prop := fun ds O => ds.length ≤ sizeLine ∧ Q (.lst ds) O
noncomputable abbrev KLstO (Q : D → Own → Prop) : List D → Own → Prop := fun ds O => ds.length ≤ sizeLine ∧ ∀ a, Q (.v (.ref a)) ((a, .list ds) :: O)
section
variable {Γ : Gam} {A : Around} {env : Env} {ρ κ : Rho} {O : Own}
theorem Cal.ca {n : Nat} {f : Value} {ds : List D} {kws : List (Str × D)} {Q : D → Own → Prop} (h : Cal Γ n f ds kws O Q) (r : Room A n) : Ca Γ A O f ds kws Q := fun g s vs ks ok i j => (h A g s vs ks r ok i j).call
theorem Ev.mono {e : Expr} {Q Q' : D → Own → Prop} (h : Ev Γ A env ρ κ O e Q) (k : ∀ d O', Q d O' → Q' d O') : Ev Γ A env ρ κ O e Q' := fun g s ok F => (h g s ok F).mono k
theorem Evs.nil {Q : List D → Own → Prop} (q : Q [] O) : Evs Γ A env ρ κ O [] Q := fun pos g s ok F => spliced_nil ⟨g, O, [], .refl ok, .nil, q⟩
theorem Evs.cons {e : Expr} {rest : List Expr} {Q : List D → Own → Prop} (h : Ev Γ A env ρ κ O e (KEs Γ A env ρ κ rest Q)) (he : starEach (e :: rest) env = (false, eval e env) :: starEach rest env := by rfl) : Evs Γ A env ρ κ O (e :: rest) Q := fun pos g s ok F => by
  rw [he]
  exact spliced_cons (T.use (h g s ok F) (fun v s₁ g₁ O₁ d G₁ i h₁ => T.use (h₁ pos g₁ s₁ G₁.ok (F.go G₁)) (fun vs s₂ g₂ O₂ ds G₂ is q => ⟨g₂, O₂, _, G₁.trans G₂, .cons (i.up G₂.to.up) is, q⟩)))
theorem EvK.one {x : Option Str} {e : Expr} {kp : Pos} {Q : List D → Own → Prop} (h : Ev Γ A env ρ κ O e (KOne Q)) : EvK Γ A env ρ κ O [⟨x, e, kp⟩] Q := fun pos g s ok F => by
  show wpAny _ _ (evalAll [eval e env >>= fun v => standAt pos >>= fun _ => pure v]) _ _ _
  unfold evalAll
  refine wpAny_bind (wpAny_bind (T.use (h g s ok F) (fun v s₁ g₁ O₁ d G₁ i q => wpAny_bind (wpAny_standAt (wpAny_pure ?_)))))
  exact wpAny_bind (wpAny_holding (wpAny_pure (wpAny_pure ⟨g₁, O₁, _, G₁, .cons i .nil, q⟩)))

theorem evArgs {f : Value} {l : List (Bool × Sem Value)} {s : Shared} {E : Value → Shared → Prop} {Q : Args → Shared → Prop} (hp : l.any (·.1) = false) (h : wpAny Γ.M A (spliced l) (fun vs s' => Q ⟨vs, []⟩ s') E s) : wpAny Γ.M A (evalArgs f true l []) Q E s := by
  cases l with
  | nil =>
    unfold evalArgs
    show wpAny Γ.M A (spliced [] >>= _) Q E s
    refine wpAny_bind (wpAny_mono h (fun vs s' h' => ?_) fun _ _ e => e)
    refine wpAny_bind (wpAny_pure ?_)
    refine wpAny_holding ?_
    exact wpAny_bind (wpAny_pure (wpAny_bind (wpAny_pure (wpAny_pure h'))))
  | cons x r =>
    obtain ⟨b, t⟩ := x
    have : b = false := (Bool.or_eq_false_iff.mp hp).1
    subst this
    exact evalArgs_plain h

theorem callKp {pos : Pos} {f : Value} {first : List Value} {l : List (Bool × Sem Value)} {s : Shared} {E : Value → Shared → Prop} {Q : Value → Shared → Prop} (hk : Kp Γ f) (hp : l.any (·.1) = false)
    (h : wpAny Γ.M A (spliced l) (fun vs s' => Γ.K.In s'.heap ∧ wpAny Γ.M A (call f (first ++ vs)) Q E s') E s) : wpAny Γ.M A (callWith pos f first l []) Q E s :=
  callWith_of (P := Γ.K.In) (by rw [hp]; rfl) hk (evArgs hp h)
theorem Okb.kin {g : Heap} {s : Shared} (ok : Okb Γ g s O) : Γ.K.In s.heap := fun a o e => ok.keep _ _ (ok.gam.kin a o e)
noncomputable abbrev NoStar (env : Env) (l : List Expr) : Prop := ∀ pos, (backTo pos (starEach l env)).any (·.1) = false

theorem callTail {pos : Pos} {f : Value} {first : List Value} {fd : List D} {args : List Expr} {g : Heap} {s : Shared} {Q : D → Own → Prop} (ok : Okb Γ g s O) (F : Frm env g s.heap O ρ κ) (ifst : InL g first fd) (hk : Kp Γ f) (hp : NoStar env args)
    (h : Evs Γ A env ρ κ O args (KCa Γ A f fd Q)) : T Γ A (callWith pos f first (backTo pos (starEach args env)) []) In g s O Q :=
  callKp hk (hp pos) (T.use (h pos g s ok F) (fun vs s₂ g₂ O₂ ds G₂ is q => ⟨G₂.ok.kin, T.after G₂ (q g₂ s₂ (first ++ vs) [] G₂.ok ((ifst.up G₂.to.up).append is) .nil)⟩))

theorem Ev.call {x : Str} {p pos : Pos} {args : List Expr} {Q : D → Own → Prop} (h : Ev Γ A env ρ κ O (.Name x p) (KCl Γ A env ρ κ args Q)) (hp : NoStar env args := by intro _; rfl) :
    Ev Γ A env ρ κ O (.Call (.Name x p) args [] pos) Q := fun g s ok F =>
  wpAny_bind (T.use (h g s ok F) (fun v s₁ g₁ O₁ d G₁ i hq9 => by
    obtain ⟨f, e, hk, h₁⟩ := hq9
    subst e; cases i
    exact T.after G₁ (callTail (first := []) (fd := []) G₁.ok (F.go G₁) .nil hk hp h₁)))

theorem M.use {Γ : Gam} {A : Around} {t : Sem (Value × List Value)} {g : Heap} {s : Shared} {O : Own} {K : Value × List Value → List D → Own → Prop} {P : Value × List Value → Shared → Prop} {E : Value → Shared → Prop}
    (h : wpAny Γ.M A t (fun fx s' => ∃ g' O' fd, Go Γ g s O g' s' O' ∧ InL g' fx.2 fd ∧ K fx fd O') (fun _ _ => False) s)
    (k : ∀ v s' g' O' fd, Go Γ g s O g' s' O' → InL g' v.2 fd → K v fd O' → P v s') : wpAny Γ.M A t P E s :=
  wpAny_mono h (fun _ _ x => match x with | ⟨_, _, _, a, b, c⟩ => k _ _ _ _ _ a b c) fun _ _ e => e.elim
noncomputable def GetM (Γ : Gam) (A : Around) (O : Own) (name : Str) (d : D) (K : Value → List D → Own → Prop) : Prop :=
  ∀ pl g s v, Okb Γ g s O → In g v d → wpAny Γ.M A (getMethod v name pl) (fun fx s' => ∃ g' O' fd, Go Γ g s O g' s' O' ∧ InL g' fx.2 fd ∧ K fx.1 fd O') (fun _ _ => False) s
noncomputable def MethForm (o : Expr) (name : Str) (apos pos : Pos) (args : List Expr) (kws : List Keyword) (env : Env) : Prop :=
  ∃ pl, eval (.Call (.Attribute o name apos) args kws pos) env = (do
      let ov ← eval o env
      standAt apos.atName
      let (f, first) ← holding [ov] (getMethod ov name pl)
      callWith pos f first (backTo pos (starEach args env)) (backToKw pos (keywordEach kws env)))
noncomputable abbrev KMe2 (Γ : Gam) (A : Around) (env : Env) (ρ κ : Rho) (args : List Expr) (Q : D → Own → Prop) : Value → List D → Own → Prop := fun f fd O => Kp Γ f ∧ Evs Γ A env ρ κ O args (KCa Γ A f fd Q)
noncomputable abbrev KMe (Γ : Gam) (A : Around) (env : Env) (ρ κ : Rho) (x : Str) (args : List Expr) (Q : D → Own → Prop) : D → Own → Prop := fun d O => GetM Γ A O x d (KMe2 Γ A env ρ κ args Q)
theorem Ev.meth {o : Expr} {name : Str} {apos pos : Pos} {args : List Expr} {Q : D → Own → Prop} (h : Ev Γ A env ρ κ O o (KMe Γ A env ρ κ name args Q))
    (hm : MethForm o name apos pos args [] env := by exact ⟨_, rfl⟩) (hp : NoStar env args := by intro _; rfl) : Ev Γ A env ρ κ O (.Call (.Attribute o name apos) args [] pos) Q := fun g s ok F => by
  obtain ⟨pl, he⟩ := hm
  unfold T
  rw [he]
  refine wpAny_bind (T.use (h g s ok F) (fun v s₁ g₁ O₁ d G₁ i h₁ => wpAny_bind (wpAny_standAt (wpAny_bind (wpAny_holding (M.use (h₁ pl g₁ s₁ v G₁.ok i) (fun fx s₂ g₂ O₂ fd G₂ ifd hq9 => ?_)))))))
  obtain ⟨hk, h₂⟩ := hq9
  exact T.after (G₁.trans G₂) (callTail G₂.ok (F.go (G₁.trans G₂)) ifd hk hp h₂)

noncomputable def GetA (Γ : Gam) (A : Around) (O : Own) (name : Str) (d : D) (Q : D → Own → Prop) : Prop := Op1 Γ A O (fun v => getAttr v name true) d Q
noncomputable abbrev KAt (Γ : Gam) (A : Around) (x : Str) (Q : D → Own → Prop) : D → Own → Prop := fun d O => GetA Γ A O x d Q
noncomputable def AttrForm (value : Expr) (attr : Str) (pos : Pos) (env : Env) : Prop := eval (.Attribute value attr pos) env = (do
      let o ← eval value env
      standAt pos.atName
      let r ← holding [o] (getAttr o attr true)
      letTemporaryGo value o r
      pure r)
theorem Ev.attr {value : Expr} {attr : Str} {pos : Pos} {Q : D → Own → Prop} (h : Ev Γ A env ρ κ O value (KAt Γ A attr Q)) (he : AttrForm value attr pos env := by rfl) : Ev Γ A env ρ κ O (.Attribute value attr pos) Q := fun g s ok F => by
  unfold T
  rw [he]
  refine wpAny_bind (T.use (h g s ok F) (fun v s₁ g₁ O₁ d G₁ i h₁ => wpAny_bind (wpAny_standAt (wpAny_bind (wpAny_holding (T.use (h₁ g₁ s₁ v G₁.ok i) (fun u s₂ g₂ O₂ c G₂ ic q => ?_)))))))
  exact wpAny_bind (wpAny_letTemporaryGo (wpAny_pure ⟨g₂, O₂, c, G₁.trans G₂, ic, q⟩))
theorem Ev.sub {value slice : Expr} {pos : Pos} {Q : D → Own → Prop} (h : Ev Γ A env ρ κ O value (KE2 Γ A env ρ κ slice (subscriptTail value slice) Q)) : Ev Γ A env ρ κ O (.Subscript value slice pos) Q := fun g s ok F =>
  Subscript_ (T.use (h g s ok F) (fun v s₁ g₁ O₁ a G₁ ia h₁ => T.use (h₁ g₁ s₁ G₁.ok (F.go G₁)) (fun w s₂ g₂ O₂ b G₂ ib h₂ => 
    T.after (G₁.trans G₂) (h₂ g₂ s₂ v w G₂.ok (ia.up G₂.to.up) ib))))

theorem newTuple_T {g : Heap} {s : Shared} {vs : List Value} {ds : List D} {Q : D → Own → Prop} (ok : Okb Γ g s O) (is : InL g vs ds) (hl : ds.length ≤ sizeLine) (q : Q (.tup ds) O) : T Γ A (newTuple vs) In g s O Q := by
  obtain ⟨g', G, e⟩ := Go.alloc (o := tupObj vs.toArray 0) ok rfl
  exact wpAny_newObj_type (⟨g', O, _, G, .tup e (by rw [List.toList_toArray]; exact is.up G.to.up), q⟩) (by show vs.toArray.size ≤ sizeLine; rw [List.size_toArray, is.length]; exact hl)
theorem newList_T {g : Heap} {s : Shared} {vs : List Value} {ds : List D} {Q : D → Own → Prop} (ok : Okb Γ g s O) (is : InL g vs ds) (hl : ds.length ≤ sizeLine) (q : Q (.lst ds) O) : T Γ A (newList vs) In g s O Q := by
  obtain ⟨g', G, e⟩ := Go.alloc (o := lstObj vs.toArray 0) ok rfl
  exact wpAny_newObj_type (⟨g', O, _, G, .lst e (by rw [List.toList_toArray]; exact is.up G.to.up), q⟩) (by show vs.toArray.size ≤ sizeLine; rw [List.size_toArray, is.length]; exact hl)
theorem newListO_T {g : Heap} {s : Shared} {vs : List Value} {ds : List D} {Q : D → Own → Prop} (ok : Okb Γ g s O) (is : InL g vs ds) (hl : ds.length ≤ sizeLine) (q : ∀ a, Q (.v (.ref a)) ((a, .list ds) :: O)) : T Γ A (newList vs) In g s O Q := by
  have G := Go.allocO (o := lstObj vs.toArray 0) (c := .list ds) ok rfl ⟨vs.toArray, 0, Heap.get?_push_size _ rfl, by rw [List.toList_toArray]; exact is⟩
  exact wpAny_newObj_type (⟨g, _, _, G, .v _, q _⟩) (by show vs.toArray.size ≤ sizeLine; rw [List.size_toArray, is.length]; exact hl)
theorem Ev.tup {elts : List Expr} {k : Nat} {pos : Pos} {Q : D → Own → Prop} (h : Evs Γ A env ρ κ O elts (KTup Q)) : Ev Γ A env ρ κ O (.Tuple elts k pos) Q := fun g s ok F =>
  Tuple_ (T.use (h pos g s ok F) (fun vs s₁ g₁ O₁ ds G₁ is hq9 => by obtain ⟨hl, q⟩ := hq9; exact T.after G₁ (newTuple_T G₁.ok is hl q)))
theorem Ev.lst {elts : List Expr} {pos : Pos} {Q : D → Own → Prop} (h : Evs Γ A env ρ κ O elts (KLst Q)) : Ev Γ A env ρ κ O (.List elts pos) Q := fun g s ok F =>
  List_ (T.use (h pos g s ok F) (fun vs s₁ g₁ O₁ ds G₁ is hq9 => by obtain ⟨hl, q⟩ := hq9; exact T.after G₁ (newList_T G₁.ok is hl q)))
theorem Ev.lstO {elts : List Expr} {pos : Pos} {Q : D → Own → Prop} (h : Evs Γ A env ρ κ O elts (KLstO Q)) : Ev Γ A env ρ κ O (.List elts pos) Q := fun g s ok F =>
  List_ (T.use (h pos g s ok F) (fun vs s₁ g₁ O₁ ds G₁ is hq9 => by obtain ⟨hl, q⟩ := hq9; exact T.after G₁ (newListO_T G₁.ok is hl q)))

theorem Te.val {e : Expr} {Q : Bool → Own → Prop} (h : Ev Γ A env ρ κ O e (KTr Γ A Q)) (he : isTrue e env (eval e env) = (do let v ← eval e env; standAt e.pos; holding [v] (truthy v))) : Te Γ A env ρ κ O e Q := fun g s ok F => by
  unfold T
  rw [he]
  exact wpAny_bind (T.use (h g s ok F) (fun v s₁ g₁ O₁ d G₁ i h₁ => wpAny_bind (wpAny_standAt (wpAny_holding (T.after G₁ (h₁ g₁ s₁ v G₁.ok i))))))
noncomputable def Tes (Γ : Gam) (A : Around) (env : Env) (ρ κ : Rho) (O : Own) (op : BoolOp) (l : List Expr) (Q : Bool → Own → Prop) : Prop :=
  ∀ g s, Okb Γ g s O → Frm env g s.heap O ρ κ → T Γ A (allTrue op l env) (fun _ b c => b = c) g s O Q
theorem Te.bool {op : BoolOp} {l : List Expr} {pos : Pos} {Q : Bool → Own → Prop} (h : Tes Γ A env ρ κ O op l Q) : Te Γ A env ρ κ O (.BoolOp op l pos) Q := fun g s ok F => h g s ok F
theorem Tes.andNil {Q : Bool → Own → Prop} (q : Q true O) : Tes Γ A env ρ κ O .And [] Q := fun g s ok F => wpAny_pure ⟨g, O, true, .refl ok, rfl, q⟩
theorem Tes.orNil {Q : Bool → Own → Prop} (q : Q false O) : Tes Γ A env ρ κ O .Or [] Q := fun g s ok F => wpAny_pure ⟨g, O, false, .refl ok, rfl, q⟩
noncomputable abbrev KAnd (Γ : Gam) (A : Around) (env : Env) (ρ κ : Rho) (rest : List Expr) (Q : Bool → Own → Prop) : Bool → Own → Prop := fun b O => if b then Tes Γ A env ρ κ O .And rest Q else Q false O
noncomputable abbrev KOr (Γ : Gam) (A : Around) (env : Env) (ρ κ : Rho) (rest : List Expr) (Q : Bool → Own → Prop) : Bool → Own → Prop := fun b O => if b then Q true O else Tes Γ A env ρ κ O .Or rest Q
theorem Tes.and {x : Expr} {rest : List Expr} {Q : Bool → Own → Prop} (h : Te Γ A env ρ κ O x (KAnd Γ A env ρ κ rest Q)) : Tes Γ A env ρ κ O .And (x :: rest) Q := fun g s ok F =>
  wpAny_bind (T.use (h g s ok F) (fun b s₁ g₁ O₁ d G₁ i h₁ => by
    subst i
    cases b with
    | true => exact T.after G₁ (h₁ g₁ s₁ G₁.ok (F.go G₁))
    | false => exact wpAny_pure ⟨g₁, O₁, false, G₁, rfl, h₁⟩))
theorem Tes.or {x : Expr} {rest : List Expr} {Q : Bool → Own → Prop} (h : Te Γ A env ρ κ O x (KOr Γ A env ρ κ rest Q)) : Tes Γ A env ρ κ O .Or (x :: rest) Q := fun g s ok F =>
  wpAny_bind (T.use (h g s ok F) (fun b s₁ g₁ O₁ d G₁ i h₁ => by
    subst i
    cases b with
    | false => exact T.after G₁ (h₁ g₁ s₁ G₁.ok (F.go G₁))
    | true => exact wpAny_pure ⟨g₁, O₁, true, G₁, rfl, h₁⟩))
end
end Lw
end
section
namespace Lw
open PySem PySem.Calls PyProof.Rows PySem.W
theorem InL.one {g : Heap} {vs : List Value} {d : D} (h : InL g vs [d]) : ∃ v, vs = [v] ∧ In g v d := by
  cases h with | cons a r => cases r with | nil => exact ⟨_, rfl, a⟩
theorem InL.two {g : Heap} {vs : List Value} {d e : D} (h : InL g vs [d, e]) : ∃ v w, vs = [v, w] ∧ In g v d ∧ In g w e := by
  cases h with | cons a r => obtain ⟨w, rfl, b⟩ := r.one; exact ⟨_, w, rfl, a, b⟩
theorem InL.three {g : Heap} {vs : List Value} {d e f : D} (h : InL g vs [d, e, f]) : ∃ v w u, vs = [v, w, u] ∧ In g v d ∧ In g w e ∧ In g u f := by
  cases h with | cons a r => obtain ⟨w, u, rfl, b, c⟩ := r.two; exact ⟨_, w, u, rfl, a, b, c⟩
theorem InL.nil' {g : Heap} {vs : List Value} (h : InL g vs []) : vs = [] := by cases h; rfl
noncomputable def ftrunc (x : UInt64) : Option Int := match Float64.decode x with
  | .fin sg m e => some (Float64.truncOf sg m e)
  | _ => none
section
variable {Γ : Gam} {A : Around} {O : Own}
theorem Ca.plain1 {f : Value} {a : D} {Q : D → Own → Prop} (h : Op1 Γ A O (fun v => call f [v]) a Q) : Ca Γ A O f [a] [] Q := fun g s vs ks ok iv ik => by
  obtain ⟨v, rfl, i⟩ := iv.one
  exact h g s v ok i
theorem Ca.plain2 {f : Value} {a b : D} {Q : D → Own → Prop} (h : Op2 Γ A O (fun v w => call f [v, w]) a b Q) : Ca Γ A O f [a, b] [] Q := fun g s vs ks ok iv ik => by
  obtain ⟨v, w, rfl, i, j⟩ := iv.two
  exact h g s v w ok i j
theorem Ca.intF {x : UInt64} {i : Int} {Q : D → Own → Prop} (h : ftrunc x = some i) (q : Q (.int i) O) : Ca Γ A O (.type "int") [.flt x] [] Q := Ca.plain1 fun g s v ok iv => by
  cases iv
  unfold ftrunc at h
  split at h
  · rename_i sg m e hd
    cases h
    exact call_int_float hd (T.val ok _ (.int _ _) q)
  · cases h
end
end Lw
end
section
namespace Lw
open PySem PySem.Calls PyProof.Rows PySem.W

section
variable {Γ : Gam} {A : Around} {O : Own}
theorem Go.sub {g h' : Heap} {s : Shared} (ok : Okb Γ g s O) (k : Sub s.heap h') (t : Nat) : Go Γ g s O g { s with heap := h', toks := t } O :=
  ⟨⟨ok.keep.trans k, ok.gam, fun p hp => by
    obtain ⟨a, b⟩ := ok.own p hp
    obtain ⟨o, ho⟩ := a.there
    exact ⟨a.same (by rw [k _ _ ho, ho]), b⟩, ok.nd, ok.gens, ok.os⟩, ⟨fun b o e _ => k b o e, Sub.refl _, fun b o e n => by rw [n] at e; cases e⟩, .refl⟩
inductive OUp : Own → Addr → Cont → Cont → Own → Prop
  | here {a : Addr} {c c' : Cont} {r : Own} : OUp ((a, c) :: r) a c c' ((a, c') :: r)
  | there {a : Addr} {c c' : Cont} {p : Addr × Cont} {r r' : Own} : OUp r a c c' r' → OUp (p :: r) a c c' (p :: r')
theorem OUp.mem {O O' : Own} {a : Addr} {c c' : Cont} (h : OUp O a c c' O') : (a, c) ∈ O := by
  induction h with
  | here => exact .head _
  | there _ ih => exact .tail _ ih
theorem OUp.keys {O O' : Own} {a : Addr} {c c' : Cont} (h : OUp O a c c' O') : O'.map (·.1) = O.map (·.1) := by
  induction h with
  | here => rfl
  | there _ ih => rw [List.map_cons, List.map_cons, ih]
theorem OUp.new {O O' : Own} {a : Addr} {c c' : Cont} (h : OUp O a c c' O') (nd : (O.map (·.1)).Nodup) {p : Addr × Cont} (hp : p ∈ O') : p = (a, c') ∨ (p ∈ O ∧ p.1 ≠ a) := by
  induction h with
  | here =>
    rw [List.map_cons, List.nodup_cons] at nd
    rcases List.mem_cons.mp hp with q | q
    · exact .inl q
    · exact .inr ⟨.tail _ q, fun e => nd.1 (e ▸ List.mem_map_of_mem (f := (·.1)) q)⟩
  | there h ih =>
    rw [List.map_cons, List.nodup_cons] at nd
    rcases List.mem_cons.mp hp with q | q
    · subst q
      exact .inr ⟨.head _, fun e => nd.1 (by rw [e]; exact List.mem_map_of_mem (f := (·.1)) h.mem)⟩
    · rcases ih nd.2 q with z | ⟨z, w⟩
      · exact .inl z
      · exact .inr ⟨.tail _ z, w⟩
theorem Go.turn {g h' : Heap} {s : Shared} {O' : Own} {a : Addr} {c c' : Cont} (ok : Okb Γ g s O) (u : OUp O a c c' O') (hs : Heap.SameBut a s.heap h') (hc : Holds g h' a c') (t : Nat) : Go Γ g s O g { s with heap := h', toks := t } O' := by
  have ga := (ok.own _ u.mem).2
  refine ⟨⟨fun b o e => (hs.2 b (fun z => by rw [z, ga] at e; cases e)).trans (ok.keep b o e), ok.gam, fun p hp => ?_, by rw [u.keys]; exact ok.nd, ok.gens, ok.os⟩, .but hs (List.mem_map_of_mem (f := (·.1)) u.mem) t, fun b hb => .inl (by show b ∈ O.map (·.1); rw [← u.keys]; exact hb)⟩
  rcases u.new ok.nd hp with rfl | ⟨z, w⟩
  · exact ⟨hc, ga⟩
  · exact ⟨(ok.own p z).1.same (hs.2 p.1 w), (ok.own p z).2⟩
inductive LstOf (O : Own) : D → List D → Prop
  | frz {ds : List D} : LstOf O (.lst ds) ds
  | own {a : Addr} {ds : List D} : (a, .list ds) ∈ O → LstOf O (.v (.ref a)) ds
theorem LstOf.at {g : Heap} {s : Shared} {d : D} {ds : List D} {v : Value} (h : LstOf O d ds) (ok : Okb Γ g s O) (i : In g v d) : ∃ a vs n, v = .ref a ∧ s.heap.get? a = some (lstObj vs n) ∧ InL g vs.toList ds := by
  cases h with
  | frz => cases i with | lst e r => exact ⟨_, _, _, rfl, ok.keep _ _ e, r⟩
  | own m =>
    cases i
    obtain ⟨⟨vs, n, e, r⟩, _⟩ := ok.own _ m
    exact ⟨_, vs, n, rfl, e, r⟩
theorem isList_of {h : Heap} {a : Addr} {vs : Array Value} {n : Nat} (e : h.get? a = some (lstObj vs n)) : h.IsList a vs := ⟨_, e, rfl, n, rfl⟩
theorem isTuple_of {h : Heap} {a : Addr} {vs : Array Value} {n : Nat} (e : h.get? a = some (tupObj vs n)) : h.IsTuple a vs := ⟨_, e, rfl, n, rfl⟩

theorem Ca.len {d : D} {ds : List D} {Q : D → Own → Prop} (l : LstOf O d ds) (hf : ds.length < 2 ^ 62) (q : Q (.int ds.length) O) : Ca Γ A O (.builtin "len") [d] [] Q := Ca.plain1 fun g s v ok iv => by
  obtain ⟨a, vs, n, rfl, e, r⟩ := l.at ok iv
  have hz : vs.size = ds.length := by rw [← r.length, Array.length_toList]
  exact call_len_list (isList_of e) (by rw [hz]; exact om_157 hf hz) (by rw [hz]; exact T.val ok _ (.int _ _) q)
theorem Ca.tupL {d : D} {ds : List D} {Q : D → Own → Prop} (l : LstOf O d ds) (hf : ds.length ≤ sizeLine) (q : Q (.tup ds) O) : Ca Γ A O (.type "tuple") [d] [] Q := Ca.plain1 fun g s v ok iv => by
  obtain ⟨a, vs, n, rfl, e, r⟩ := l.at ok iv
  have hz : vs.size = ds.length := by rw [← r.length, Array.length_toList]
  refine call_tuple_list (isList_of e) (fun h' k => ?_) (by rw [hz]; exact hf)
  have G₁ := Go.sub ok k s.toks
  obtain ⟨g', G₂, e'⟩ := Go.alloc (o := tupObj vs 0) G₁.ok rfl
  exact ⟨g', O, .tup ds, G₁.trans G₂, .tup e' (r.up G₂.to.up), q⟩
theorem Ca.append {a : Addr} {d : D} {ds : List D} {O' : Own} {Q : D → Own → Prop} (u : OUp O a (.list ds) (.list (ds ++ [d])) O') (hf : ds.length ≤ sizeLine) (q : Q .none O') : Ca Γ A O (.builtin "list.append") [.v (.ref a), d] [] Q := Ca.plain2 fun g s v w ok iv iw => by
  cases iv
  obtain ⟨⟨vs, n, e, r⟩, ga⟩ := ok.own _ u.mem
  have hz : vs.size = ds.length := by rw [← r.length, Array.length_toList]
  refine append_at e (fun h' hs e' => ⟨g, O', .none, Go.turn ok u hs ⟨_, _, e', by rw [Array.toList_push]; exact r.append (.cons iw .nil)⟩ _, .none, q⟩) (by rw [hz]; exact hf)
theorem setNth {g : Heap} : ∀ {vs : List Value} {ds : List D}, InL g vs ds → ∀ (i : Nat) {w : Value} {e : D}, In g w e → InL g (vs.set i w) (ds.set i e)
  | _, _, .nil, i, w, e, h => by simp; exact .nil
  | _, _, .cons a r, 0, w, e, h => .cons h r
  | _, _, .cons a r, i + 1, w, e, h => .cons a (setNth r i h)
noncomputable def Op3 (Γ : Gam) (A : Around) (O : Own) (f : Value → Value → Value → Sem Unit) (a b c : D) (Q : Own → Prop) : Prop :=
  ∀ g s v w u, Okb Γ g s O → In g v a → In g w b → In g u c → T Γ A (f v w u) (fun _ _ _ => True) g s O (fun (_ : Unit) O' => Q O')
theorem Op3.setL {a : Addr} {k : Int} {d : D} {ds : List D} {O' : Own} {Q : Own → Prop} (h0 : 0 ≤ k) (h1 : k < ds.length) (h2 : k < 2 ^ 63) (u : OUp O a (.list ds) (.list (ds.set k.toNat d)) O') (q : Q O') : Op3 Γ A O setItem (.v (.ref a)) (.int k) d Q := fun g s v w z ok iv iw iz => by
  cases iv; cases iw
  obtain ⟨⟨vs, n, e, r⟩, ga⟩ := ok.own _ u.mem
  have hz : vs.size = ds.length := by rw [← r.length, Array.length_toList]
  refine ki_setAt e h0 h2 (by rw [hz]; exact h1) ⟨g, O', (), Go.turn ok u (Heap.SameBut.update ..) ⟨_, _, PySem.IsL.update e _, ?_⟩ _, trivial, q⟩
  rw [Array.toList_setIfInBounds]
  exact setNth r _ iz
theorem Op2.addL {x y : D} {ds es : List D} {Q : D → Own → Prop} (l : LstOf O x ds) (m : LstOf O y es) (hf : ds.length + es.length ≤ sizeLine) (q : Q (.lst (ds ++ es)) O) : Op2 Γ A O (binaryOp .Add) x y Q := fun g s v w ok i j => by
  obtain ⟨a, vs, n, rfl, e, r⟩ := l.at ok i
  obtain ⟨b, ws, k, rfl, e2, r2⟩ := m.at ok j
  have hz : vs.size = ds.length := by rw [← r.length, Array.length_toList]
  have hz2 : ws.size = es.length := by rw [← r2.length, Array.length_toList]
  refine concat_meets ⟨_, e, rfl⟩ ⟨_, e2, rfl⟩ noFill_list_add seq_list_add PySem.F.slot_list_add PySem.F.entry_list_add (PySem.F.args_list_add_2 _ _) (list_addW a b vs ws n k none none #[] #[] (by rw [hz, hz2]; exact hf)) ⟨e, e2, ?_⟩
  obtain ⟨g', G, e'⟩ := Go.alloc (o := lstObj (vs ++ ws) 0) ok rfl
  exact ⟨g', O, _, G, .lst e' (by rw [Array.toList_append]; exact (r.append r2).up G.to.up), q⟩
theorem Op2.addLO {x y : D} {ds es : List D} {Q : D → Own → Prop} (l : LstOf O x ds) (m : LstOf O y es) (hf : ds.length + es.length ≤ sizeLine) (q : ∀ c, Q (.v (.ref c)) ((c, .list (ds ++ es)) :: O)) : Op2 Γ A O (binaryOp .Add) x y Q := fun g s v w ok i j => by
  obtain ⟨a, vs, n, rfl, e, r⟩ := l.at ok i
  obtain ⟨b, ws, k, rfl, e2, r2⟩ := m.at ok j
  have hz : vs.size = ds.length := by rw [← r.length, Array.length_toList]
  have hz2 : ws.size = es.length := by rw [← r2.length, Array.length_toList]
  refine concat_meets ⟨_, e, rfl⟩ ⟨_, e2, rfl⟩ noFill_list_add seq_list_add PySem.F.slot_list_add PySem.F.entry_list_add (PySem.F.args_list_add_2 _ _) (list_addW a b vs ws n k none none #[] #[] (by rw [hz, hz2]; exact hf)) ⟨e, e2, ?_⟩
  have G := Go.allocO (o := lstObj (vs ++ ws) 0) (c := .list (ds ++ es)) ok rfl ⟨_, 0, Heap.get?_push_size _ rfl, by rw [Array.toList_append]; exact r.append r2⟩
  exact ⟨g, _, _, G, .v _, q _⟩
theorem Op2.mulL1 {x : D} {e : D} {k : Int} {Q : D → Own → Prop} (l : LstOf O x [e]) (h0 : 0 ≤ k) (h1 : k ≤ 1000000) (q : Q (.lst (List.replicate k.toNat e)) O) : Op2 Γ A O (binaryOp .Mult) x (.int k) Q := fun g s v w ok i j => by
  obtain ⟨a, vs, n, rfl, he, r⟩ := l.at ok i
  cases j
  obtain ⟨v1, hv1, i1⟩ := r.one
  obtain ⟨vl⟩ := vs
  dsimp only at hv1
  subst hv1
  have hsz : (Array.mk [v1]).size = 1 := rfl
  refine wpAny_binaryOp_repeat_ref (T := "list") (U := "int") (by decide) ⟨_, he, rfl⟩ (fun s' => typeIs_int s' k _) noFill_list_mul F.fills_int_mul F.slot_int_rmul repeat_list F.slot_int_index.lookup
    (call_meets F.slot_int_rmul (typeIs_int s k _) F.entry_int_rmul (F.args_int_rmul_2 _ _) (int___rmul___int_list k _ a _ n)
      ⟨he, rfl, ⟨_, he, rfl⟩, call_meets F.slot_list_mul ⟨_, he, rfl⟩ F.entry_list_mul (F.args_list_mul_2 _ _)
        (AutoListH.list___mul___list_int_3 a _ n k _ (by simp [Builtin.List.listFitsIndex]; exact om_183 h0 h1) (by rw [hsz]; exact om_184 h0 h1) (by unfold Builtin.List.listTooLong sizeLine; rw [hsz]; simp; exact om_185 h0 h1))
        ⟨he, ?_⟩⟩)
  have hrep : ∀ (m : Nat), InL g (List.foldl (fun x1 x2 => x1 ++ x2) (#[] : Array Value) (List.replicate m #[v1])).toList (List.replicate m e) := by
    have : ∀ (m : Nat) (acc : Array Value) (ds : List D), InL g acc.toList ds → InL g (List.foldl (fun x1 x2 => x1 ++ x2) acc (List.replicate m #[v1])).toList (ds ++ List.replicate m e) := by
      intro m
      induction m with
      | zero => intro acc ds h; simpa using h
      | succ m ih =>
        intro acc ds h
        rw [List.replicate_succ, List.foldl_cons, List.replicate_succ]
        have := ih (acc ++ #[v1]) (ds ++ [e]) (by rw [Array.toList_append]; exact h.append (.cons i1 .nil))
        rwa [List.append_assoc] at this
    intro m
    simpa using this m #[] [] .nil
  obtain ⟨g', G, e'⟩ := Go.alloc (o := lstObj (List.foldl (fun x1 x2 => x1 ++ x2) #[] (List.replicate (if (#[v1] : Array Value).isEmpty = true then 0 else k.toNat) #[v1])) 0) ok rfl
  exact ⟨g', O, _, G, .lst e' ((hrep _).up G.to.up), by simpa using q⟩
end
end Lw
end
section
namespace Lw
open PySem PySem.Calls PyProof.Rows PySem.W

inductive OptIn (g : Heap) : Option Value → Option D → Prop
  | none : OptIn g none none
  | some {v : Value} {d : D} : In g v d → OptIn g (some v) (some d)
inductive ODel : Own → Addr → Own → Prop
  | here {a : Addr} {c : Cont} {r : Own} : ODel ((a, c) :: r) a r
  | there {a : Addr} {p : Addr × Cont} {r r' : Own} : ODel r a r' → ODel (p :: r) a (p :: r')
theorem ODel.sub {O O' : Own} {a : Addr} (h : ODel O a O') : O'.Sublist O := by
  induction h with
  | here => exact List.sublist_cons_self _ _
  | there _ ih => exact ih.cons_cons _
theorem ODel.in {O O' : Own} {a : Addr} (h : ODel O a O') : a ∈ O.map (·.1) := by
  induction h with
  | here => exact .head _
  | there _ ih => exact .tail _ ih
theorem ODel.ne {O O' : Own} {a : Addr} (h : ODel O a O') (nd : (O.map (·.1)).Nodup) : ∀ p ∈ O', p.1 ≠ a := by
  induction h with
  | here =>
    rw [List.map_cons, List.nodup_cons] at nd
    exact fun p hp e => nd.1 (e ▸ List.mem_map_of_mem (f := (·.1)) hp)
  | there h ih =>
    rw [List.map_cons, List.nodup_cons] at nd
    intro p hp e
    rcases List.mem_cons.mp hp with rfl | hp
    · exact nd.1 (e ▸ h.in)
    · exact ih nd.2 p hp e
section
variable {Γ : Gam} {A : Around} {O : Own}
theorem Go.del {g h' : Heap} {s : Shared} {O' : Own} {a : Addr} (ok : Okb Γ g s O) (u : ODel O a O') (hs : Heap.ExtBut a s.heap h') : Go Γ g s O g { s with heap := h' } O' := by
  have ha : g.get? a = none := by
    obtain ⟨p, hp, e⟩ := List.mem_map.mp u.in
    exact e ▸ (ok.own p hp).2
  refine ⟨⟨fun b o e => hs b o (fun z => by rw [z, ha] at e; cases e) (ok.keep b o e), ok.gam, fun p hp => ?_, ok.nd.sublist (u.sub.map _), ok.gens, ok.os⟩, ⟨fun b o e q => hs b o (fun z => q (z ▸ u.in)) e, Sub.refl _, fun b o e q => by rw [q] at e; cases e⟩, fun b hb => .inl ((u.sub.map _).subset hb)⟩
  obtain ⟨x, y⟩ := ok.own p (u.sub.subset hp)
  obtain ⟨o, ho⟩ := x.there
  exact ⟨x.same (by rw [hs _ _ (u.ne ok.nd p hp) ho, ho]), y⟩

noncomputable def Nx (Γ : Gam) (A : Around) (O : Own) (it : Addr) (Q : Option D → Own → Prop) : Prop :=
  ∀ g s, Okb Γ g s O → T Γ A (pyNext (.ref it)) OptIn g s O Q
noncomputable def GetI (Γ : Gam) (A : Around) (O : Own) (d : D) (K : Addr → Own → Prop) : Prop :=
  ∀ g s v, Okb Γ g s O → In g v d → T Γ A (pyIter v) (fun _ v I => v = .ref I) g s O K

theorem drop_cons {g : Heap} {vs : List Value} {i : Nat} {d : D} {ds : List D} (h : InL g (vs.drop i) (d :: ds)) : ∃ v, vs[i]? = some v ∧ In g v d ∧ InL g (vs.drop (i + 1)) ds := by
  cases q : vs.drop i with
  | nil => rw [q] at h; cases h
  | cons v r =>
    rw [q] at h
    cases h with
    | cons a b =>
      have hi : i < vs.length := by
        rcases Nat.lt_or_ge i vs.length with z | z
        · exact z
        · rw [List.drop_eq_nil_of_le z] at q; cases q
      rw [List.drop_eq_getElem_cons hi] at q
      cases q
      exact ⟨_, List.getElem?_eq_getElem hi, a, b⟩
theorem drop_nil {g : Heap} {vs : List Value} {i : Nat} (h : InL g (vs.drop i) []) : vs[i]? = none := by
  cases q : vs.drop i with
  | nil => exact List.getElem?_eq_none (List.drop_eq_nil_iff.mp q)
  | cons v r => rw [q] at h; cases h
theorem signs_cons {l : List Nat} {i : Nat} {d : D} {ds : List D} (h : signs (l.drop i) = d :: ds) : ∃ c, l[i]? = some c ∧ d = .str ⟨#[c]⟩ ∧ ds = signs (l.drop (i + 1)) := by
  cases q : l.drop i with
  | nil => rw [q] at h; cases h
  | cons v r =>
    rw [q] at h
    have hi : i < l.length := by
      rcases Nat.lt_or_ge i l.length with z | z
      · exact z
      · rw [List.drop_eq_nil_of_le z] at q; cases q
    rw [List.drop_eq_getElem_cons hi] at q
    cases q
    cases h
    exact ⟨_, List.getElem?_eq_getElem hi, rfl, rfl⟩

theorem Nx.item {it : Addr} {d : D} {ds : List D} {O' : Own} {Q : Option D → Own → Prop} (u : OUp O it (.iter (d :: ds)) (.iter ds) O') (q : Q (some d) O') : Nx Γ A O it Q := fun g s ok => by
  obtain ⟨⟨o, ho, hi⟩, hn⟩ := ok.own _ u.mem
  generalize hx : d :: ds = xs at hi
  have fin : ∀ (h' : Heap) (tk : Nat) (v : Value), Heap.SameBut it s.heap h' → (∃ o, h'.get? it = some o ∧ ItOf g o ds) → In g v d → ∃ g' O' d, Go Γ g s O g' { s with heap := h', toks := tk } O' ∧ OptIn g' (some v) d ∧ Q d O' := fun h' tk v hs hc iv => ⟨g, O', some d, Go.turn ok u hs hc tk, .some iv, q⟩
  cases hi with
  | lst h1 h2 h3 h4 =>
    subst hx
    obtain ⟨v, e, iv, r⟩ := drop_cons h4
    exact wpAny_pyNext_list_item (x := v) ⟨o, ho, h1, h2⟩ (isList_of (ok.keep _ _ h3)) (by rw [← Array.getElem?_toList]; exact e) fun h' hit hs => by
      obtain ⟨o', a, b, c⟩ := hit
      exact fin h' s.toks v hs ⟨o', a, .lst b c h3 r⟩ iv
  | tup h1 h2 h3 h4 =>
    subst hx
    obtain ⟨v, e, iv, r⟩ := drop_cons h4
    exact wpAny_pyNext_tuple_item (x := v) ⟨o, ho, h1, h2⟩ (isTuple_of (ok.keep _ _ h3)) (by rw [← Array.getElem?_toList]; exact e) fun h' hit hs => by
      obtain ⟨o', a, b, c⟩ := hit
      exact fin h' s.toks v hs ⟨o', a, .tup b c h3 r⟩ iv
  | rng =>
    rename_i x st n
    cases n with
    | zero => cases hx
    | succ n =>
      cases hx
      exact wpAny_pyNext_range_item ho (by exact om_186) fun h' hit hs => fin h' _ _ hs ⟨_, by
        have := hit
        unfold IsRangeIter at this
        rw [show ((n + 1 : Nat) : Int) - 1 = (n : Int) by exact om_187] at this
        exact this, .rng⟩ (.int _ _)
  | str h0 h1 h2 =>
    rename_i ty x t i
    obtain ⟨c, e, rfl, rfl⟩ := signs_cons hx.symm
    have e' : x.cps[i]? = some c := by rw [← Array.getElem?_toList]; exact e
    rcases h0 with rfl | rfl
    · exact wpAny_pyNext_ascii_item ⟨o, ho, h1, h2⟩ e' fun h' hit hs => by
        obtain ⟨o', a, b, c'⟩ := hit
        exact fin h' _ _ hs ⟨o', a, .str (.inl rfl) b c'⟩ (.str _ _)
    · exact wpAny_pyNext_wide_item ⟨o, ho, h1, h2⟩ e' fun h' hit hs => by
        obtain ⟨o', a, b, c'⟩ := hit
        exact fin h' _ _ hs ⟨o', a, .str (.inr rfl) b c'⟩ (.str _ _)
theorem Nx.stop {it : Addr} {O' : Own} {Q : Option D → Own → Prop} (hh : A.handled = none) (m : (it, .iter []) ∈ O) (u : ODel O it O') (q : Q none O') : Nx Γ A O it Q := fun g s ok => by
  obtain ⟨⟨o, ho, hi⟩, hn⟩ := ok.own _ m
  generalize hx : ([] : List D) = xs at hi
  have fin : ∀ (h' : Heap), Heap.ExtBut it s.heap h' → ∃ g' O' d, Go Γ g s O g' { s with heap := h' } O' ∧ OptIn g' none d ∧ Q d O' := fun h' hs => ⟨g, O', none, Go.del ok u hs, .none, q⟩
  cases hi with
  | lst h1 h2 h3 h4 =>
    subst hx
    exact wpAny_pyNext_list_end hh ⟨o, ho, h1, h2⟩ (isList_of (ok.keep _ _ h3)) (by rw [← Array.getElem?_toList]; exact drop_nil h4) fun h' hs => fin h' hs
  | tup h1 h2 h3 h4 =>
    subst hx
    exact wpAny_pyNext_tuple_end hh ⟨o, ho, h1, h2⟩ (isTuple_of (ok.keep _ _ h3)) (by rw [← Array.getElem?_toList]; exact drop_nil h4) fun h' hs => fin h' hs
  | rng =>
    rename_i x st n
    cases n with
    | zero => exact wpAny_pyNext_range_end hh ho (by exact om_188) fun h' hs => fin h' hs
    | succ n => cases hx
  | str h0 h1 h2 =>
    rename_i ty x t i
    have e : x.cps[i]? = none := by
      rw [← Array.getElem?_toList]
      cases q : x.cps.toList.drop i with
      | nil => exact List.getElem?_eq_none (List.drop_eq_nil_iff.mp q)
      | cons v r => rw [q] at hx; cases hx
    rcases h0 with rfl | rfl
    · exact wpAny_pyNext_ascii_end hh ⟨o, ho, h1, h2⟩ e fun h' hs => fin h' hs
    · exact wpAny_pyNext_wide_end hh ⟨o, ho, h1, h2⟩ e fun h' hs => fin h' hs
theorem Nx.litItem {it l : Addr} {i : Nat} {d : D} {ds : List D} {O' : Own} {Q : Option D → Own → Prop} (u : OUp O it (.lit l i) (.lit l (i + 1)) O') (m : (l, .list ds) ∈ O) (hd : ds[i]? = some d) (q : Q (some d) O') : Nx Γ A O it Q := fun g s ok => by
  obtain ⟨hi, hn⟩ := ok.own _ u.mem
  obtain ⟨⟨vs, n, e, r⟩, _⟩ := ok.own _ m
  obtain ⟨v, hv, iv⟩ := r.get hd
  exact wpAny_pyNext_list_item (x := v) hi (isList_of e) (by rw [← Array.getElem?_toList]; exact hv) fun h' hit hs => ⟨g, O', some d, Go.turn ok u hs hit s.toks, .some iv, q⟩
theorem Nx.litStop {it l : Addr} {i : Nat} {ds : List D} {O' : Own} {Q : Option D → Own → Prop} (hh : A.handled = none) (m₀ : (it, .lit l i) ∈ O) (u : ODel O it O') (m : (l, .list ds) ∈ O) (hd : ds[i]? = none) (q : Q none O') : Nx Γ A O it Q := fun g s ok => by
  obtain ⟨hi, hn⟩ := ok.own _ m₀
  obtain ⟨⟨vs, n, e, r⟩, _⟩ := ok.own _ m
  exact wpAny_pyNext_list_end hh hi (isList_of e) (by
    rw [← Array.getElem?_toList]
    refine List.getElem?_eq_none ?_
    rw [r.length]
    exact List.getElem?_eq_none_iff.mp hd) fun h' hs => ⟨g, O', none, Go.del ok u hs, .none, q⟩

theorem GetI.lst {ds : List D} {K : Addr → Own → Prop} (q : ∀ I, K I ((I, .iter ds) :: O)) : GetI Γ A O (.lst ds) K := fun g s v ok i => by
  cases i with
  | lst e r =>
    exact wpAny_pyIter_list (isList_of (ok.keep _ _ e)) ⟨g, _, _, Go.allocO (c := .iter ds) ok rfl ⟨_, Heap.get?_push_size _ rfl, .lst (i := 0) rfl rfl e (by rw [List.drop_zero]; exact r)⟩, rfl, q _⟩
theorem GetI.own {a : Addr} {ds : List D} {K : Addr → Own → Prop} (m : (a, .list ds) ∈ O) (q : ∀ I, K I ((I, .lit a 0) :: O)) : GetI Γ A O (.v (.ref a)) K := fun g s v ok i => by
  cases i
  obtain ⟨⟨vs, n, e, r⟩, _⟩ := ok.own _ m
  exact wpAny_pyIter_list (isList_of e) ⟨g, _, _, Go.allocO (c := .lit a 0) ok rfl ⟨_, Heap.get?_push_size _ rfl, rfl, rfl⟩, rfl, q _⟩
theorem GetI.str {x : Str} {K : Addr → Own → Prop} (q : ∀ I, K I ((I, .iter (signs x.cps.toList)) :: O)) : GetI Γ A O (.str x) K := fun g s v ok i => by
  cases i
  cases ha : x.cps.all (· < 128)
  · exact wpAny_pyIter_wide ha ⟨g, _, _, Go.allocO (c := .iter (signs x.cps.toList)) ok rfl ⟨_, Heap.get?_push_size _ rfl, .str (i := 0) (.inr rfl) rfl rfl⟩, rfl, q _⟩
  · exact wpAny_pyIter_ascii ha ⟨g, _, _, Go.allocO (c := .iter (signs x.cps.toList)) ok rfl ⟨_, Heap.get?_push_size _ rfl, .str (i := 0) (.inl rfl) rfl rfl⟩, rfl, q _⟩
theorem GetI.rng {a b c : Int} {n : Nat} {K : Addr → Own → Prop} (hsm : Builtin.Range.small a b c = true) (hn : Builtin.Range.rangeSize a b c = (n : Int)) (q : ∀ I, K I ((I, .iter (rangeFrom a c n)) :: O)) : GetI Γ A O (.rng a b c) K := fun g s v ok i => by
  cases i with
  | rng e =>
    exact wpAny_pyIter_range (ok.keep _ _ e) hsm ⟨g, _, _, Go.allocO (c := .iter (rangeFrom a c n)) ok rfl ⟨_, Heap.get?_push_size _ rfl, by rw [hn]; exact .rng⟩, rfl, q _⟩
theorem selfI {it : Addr} {c : Cont} {g : Heap} {s : Shared} {E : Value → Shared → Prop} {Q : Value → Shared → Prop} (ok : Okb Γ g s O) (m : (it, c) ∈ O) (hc : (∃ ds, c = .iter ds) ∨ ∃ l i, c = .lit l i) (h : Q (.ref it) s) : wpAny Γ.M A (pyIter (.ref it)) Q E s := by
  have hh := (ok.own _ m).1
  rcases hc with ⟨ds, rfl⟩ | ⟨l, i, rfl⟩
  · obtain ⟨o, ho, hi⟩ := hh
    cases hi with
    | lst h1 h2 _ _ => exact wpAny_pyIter_listiter ⟨o, ho, h1, h2⟩ h
    | tup h1 h2 _ _ => exact wpAny_pyIter_tupleiter ⟨o, ho, h1, h2⟩ h
    | rng => exact wpAny_pyIter_rangeiter ho h
    | str h0 h1 h2 =>
      rcases h0 with rfl | rfl
      · exact wpAny_pyIter_striter_ascii ⟨o, ho, h1, h2⟩ h
      · exact wpAny_pyIter_striter_wide ⟨o, ho, h1, h2⟩ h
  · exact wpAny_pyIter_listiter hh h
end

noncomputable def As (Γ : Gam) (A : Around) (env : Env) (ρ κ : Rho) (O : Own) (t : Value → Sem Unit) (d : D) (Q : Rho → Rho → Own → Prop) : Prop :=
  ∀ g s v, Okb Γ g s O → Frm env g s.heap O ρ κ → In g v d → wpAny Γ.M A (t v) (fun _ s' => ∃ g' ρ' κ' O', Gs Γ env g s κ O g' s' ρ' κ' O' ∧ Q ρ' κ' O') (fun _ _ => False) s
noncomputable def Asl (Γ : Gam) (A : Around) (env : Env) (ρ κ : Rho) (O : Own) (ts : List (Value → Sem Unit)) (ds : List D) (Q : Rho → Rho → Own → Prop) : Prop :=
  ∀ g s vs, Okb Γ g s O → Frm env g s.heap O ρ κ → InL g vs ds → wpAny Γ.M A (assignInOrder ts vs) (fun _ s' => ∃ g' ρ' κ' O', Gs Γ env g s κ O g' s' ρ' κ' O' ∧ Q ρ' κ' O') (fun _ _ => False) s
noncomputable abbrev KNq (κ : Rho) (O : Own) (Q : Rho → Rho → Own → Prop) : Rho → Prop := fun ρ => Q ρ κ O
noncomputable abbrev KNqc (ρ : Rho) (O : Own) (Q : Rho → Rho → Own → Prop) : Rho → Prop := fun κ => Q ρ κ O
noncomputable abbrev KAsl (Γ : Gam) (A : Around) (env : Env) (ts : List (Value → Sem Unit)) (ds : List D) (Q : Rho → Rho → Own → Prop) : Rho → Rho → Own → Prop := fun ρ κ O => Asl Γ A env ρ κ O ts ds Q
noncomputable abbrev KGi (Γ : Gam) (A : Around) (P : Addr → Own → Prop) : D → Own → Prop := fun d O => GetI Γ A O d P
section
variable {Γ : Gam} {A : Around} {env : Env} {ρ κ : Rho} {O : Own}
theorem As.loc {x : Str} {pos : Pos} {d : D} {Q : Rho → Rho → Own → Prop} (h : Exists (KPut ρ x d (KNq κ O Q))) : As Γ A env ρ κ O (assign (.Name x pos) env) d Q := fun g s v ok F i => by
  obtain ⟨ρ', p, q⟩ := h
  exact wpAny_assign_Name (store_loc ok F i p fun s' G => ⟨g, ρ', κ, O, G, q⟩)
theorem As.cel {x : Str} {pos : Pos} {d : D} {Q : Rho → Rho → Own → Prop} (h : Exists (KPut κ x d (KNqc ρ O Q))) (hl : env.kindOf x = some .cell) (hf : env.func.isSome = true) : As Γ A env ρ κ O (assign (.Name x pos) env) d Q := fun g s v ok F i => by
  obtain ⟨κ', p, q⟩ := h
  exact wpAny_assign_Name (store_cel ok F i p hl hf fun s' G => ⟨g, ρ, κ', O, G, q⟩)
theorem Asl.nil {Q : Rho → Rho → Own → Prop} (q : Q ρ κ O) : Asl Γ A env ρ κ O [] [] Q := fun g s vs ok F i => by
  cases i
  exact wpAny_pure ⟨g, ρ, κ, O, .ofGo F (.refl ok), q⟩
theorem Asl.cons {t : Value → Sem Unit} {ts : List (Value → Sem Unit)} {d : D} {ds : List D} {Q : Rho → Rho → Own → Prop} (h : As Γ A env ρ κ O t d (KAsl Γ A env ts ds Q)) : Asl Γ A env ρ κ O (t :: ts) (d :: ds) Q := fun g s vs ok F i => by
  cases i with
  | cons a r =>
    unfold assignInOrder
    refine wpAny_bind (wpAny_holding (As.use (h g s _ ok F a) (fun _ s₁ g₁ ρ₁ κ₁ O₁ G₁ q => ?_)))
    exact As.after G₁ (q g₁ s₁ _ G₁.ok G₁.fr (r.up G₁.to.up))
theorem As.tup {elts : List Expr} {x1 : Nat} {pos : Pos} {ds : List D} {ts : List (Value → Sem Unit)} {Q : Rho → Rho → Own → Prop} (hh : A.handled = none) (ht : (assignEach elts env).map (·.2) = ts) (hl : (assignEach elts env).length = ds.length) (hstar : (assignEach elts env).findIdx? (·.1) = none)
    (h : Asl Γ A env ρ κ O ts ds Q) : As Γ A env ρ κ O (assign (.Tuple elts x1 pos) env) (.tup ds) Q := fun g s v ok F i => by
  subst ht
  cases i with
  | tup e r =>
    rename_i a vs n
    refine wpAny_assign_Tuple (items := vs) hh (isTuple_of (ok.keep _ _ e)) (by rw [hl, ← Array.length_toList, r.length]) hstar fun h' hs => ?_
    have G := Go.sub ok (h' := h') (fun b o q => hs b o (fun z => absurd (Heap.lt_size q) (by rw [z]; exact Nat.lt_irrefl _)) q) s.toks
    exact As.after (Gs.ofGo F G) (h g _ _ G.ok (F.go G) r)

inductive Fgt : Rho → Rho → Prop
  | nil : Fgt [] []
  | keep {p : Str × Option D} {r r' : Rho} : Fgt r r' → Fgt (p :: r) (p :: r')
  | drop {x : Str} {od : Option D} {r r' : Rho} : Fgt r r' → Fgt ((x, od) :: r) ((x, none) :: r')
theorem Fgt.refl : ∀ {r : Rho}, Fgt r r
  | [] => .nil
  | _ :: _ => .keep .refl
theorem Fgt.keys {r r' : Rho} (h : Fgt r r') : r'.map (·.1) = r.map (·.1) := by
  induction h with
  | nil => rfl
  | keep _ ih => rw [List.map_cons, List.map_cons, ih]
  | drop _ ih => rw [List.map_cons, List.map_cons, ih]
theorem Fgt.mem {r r' : Rho} (h : Fgt r r') {x : Str} {d : D} (m : (x, some d) ∈ r') : (x, some d) ∈ r := by
  induction h with
  | nil => exact m
  | keep _ ih =>
    rcases List.mem_cons.mp m with q | q
    · exact q ▸ .head _
    · exact .tail _ (ih q)
  | drop _ ih =>
    rcases List.mem_cons.mp m with q | q
    · cases q
    · exact .tail _ (ih q)
theorem Frm.forget {g h : Heap} {ρ' : Rho} (F : Frm env g h O ρ κ) (f : Fgt ρ ρ') : Frm env g h O ρ' κ := by
  obtain ⟨m, hm, hr⟩ := F.loc
  refine ⟨F.kind, F.glob, F.bi, ⟨m, hm, fun x d hx => hr x d (f.mem hx)⟩, fun p hp => ?_, by rw [f.keys]; exact F.nd, F.gl, F.lo, F.ck, F.cel, F.cnd, F.cin⟩
  have : p.1 ∈ ρ.map (·.1) := f.keys ▸ List.mem_map_of_mem hp
  obtain ⟨q, hq, e⟩ := List.mem_map.mp this
  exact e ▸ F.lk q hq
theorem Frm.less {g h : Heap} {O' : Own} (F : Frm env g h O ρ κ) (l : ∀ b, dom O' b → dom O b) : Frm env g h O' ρ κ :=
  ⟨F.kind, F.glob, F.bi, F.loc, F.lk, F.nd, F.gl, fun x => F.lo (l _ x), F.ck, fun p hp => by
    obtain ⟨h1, ca, h2, h3, h4, h5⟩ := F.cel p hp
    exact ⟨h1, ca, h2, h3, fun x => h4 (l _ x), h5⟩, F.cnd, F.cin⟩
noncomputable def OS (O' O : Own) : Prop := ∃ P, List.Perm O' P ∧ List.Sublist P O
theorem OS.of {O' O : Own} (h : List.Sublist O' O) : OS O' O := ⟨O', .refl _, h⟩
theorem OS.refl {O : Own} : OS O O := .of (List.Sublist.refl _)
theorem OS.swap {p q : Addr × Cont} {r O : Own} (h : List.Sublist (q :: p :: r) O) : OS (p :: q :: r) O := ⟨_, .swap q p r, h⟩
theorem OS.okb {Γ : Gam} {g : Heap} {s : Shared} {O O' : Own} (l : OS O' O) (ok : Okb Γ g s O) : Okb Γ g s O' := by
  obtain ⟨P, a, b⟩ := l
  have okP : Okb Γ g s P := ⟨ok.keep, ok.gam, fun p hp => ok.own p (b.subset hp), ok.nd.sublist (b.map _), ok.gens, ok.os⟩
  exact okP.perm a.symm
theorem OS.dom {O O' : Own} (l : OS O' O) (b : Addr) (h : dom O' b) : dom O b := by
  obtain ⟨P, x, y⟩ := l
  exact (y.map _).subset ((x.map _).subset h)
theorem Gs.forget {g g' : Heap} {s s' : Shared} {ρ' κ' : Rho} {O' ρ₂ O₂} (G : Gs Γ env g s κ O g' s' ρ' κ' O') (f : Fgt ρ' ρ₂) (l : OS O₂ O') : Gs Γ env g s κ O g' s' ρ₂ κ' O₂ :=
  ⟨l.okb G.ok, (G.fr.forget f).less fun b hb => l.dom b hb, G.to, fun b hb => G.wi b (l.dom b hb), G.ks⟩

noncomputable def PairT (target : Expr) : Bool := match target with | .Tuple .. => true | .Name .. => true | _ => false
theorem letGo_of {g : Heap} {s : Shared} {it : Addr} {c : Cont} {target : Expr} {v : Value} {E : Value → Shared → Prop} {Q : Unit → Shared → Prop} (ok : Okb Γ g s O) (m : (it, c) ∈ O) (hc : (∃ ds, c = .iter ds) ∨ ∃ l i, c = .lit l i) (ht : PairT target = true) (h : Q () s) : wpAny Γ.M A (letOwnedTupleGo target (.ref it) v) Q E s := by
  cases target with
  | Name x p => exact wpAny_pure h
  | Tuple elts x1 pos =>
    have hh := (ok.own _ m).1
    have key : ∀ (o : Obj) (n : String) (vs : Array Value), s.heap.get? it = some o → o.cls = .type n → o.data = .fields vs → (["enumerate", "zip", "dict_itemiterator", "dict_reverseitemiterator", "odict_iterator", "itertools.zip_longest", "itertools.pairwise"].contains n) = false → wpAny Γ.M A (letOwnedTupleGo (.Tuple elts x1 pos) (.ref it) v) Q E s := fun o n vs ho h1 h2 h3 => by
      unfold letOwnedTupleGo
      cases v with
      | ref a =>
        refine wpAny_bind (wpAny_load ho ?_)
        simp only [h1, h2, h3, Bool.false_and, Bool.false_eq_true, if_false]
        exact wpAny_pure h
      | _ => exact wpAny_pure h
    rcases hc with ⟨ds, rfl⟩ | ⟨l, i, rfl⟩
    · obtain ⟨o, ho, hi⟩ := hh
      cases hi with
      | lst h1 h2 _ _ => exact key o _ _ ho h1 h2 (by decide)
      | tup h1 h2 _ _ => exact key o _ _ ho h1 h2 (by decide)
      | rng => exact key _ _ _ ho rfl rfl (by decide)
      | str h0 h1 h2 =>
        rcases h0 with rfl | rfl
        · exact key o _ _ ho h1 h2 (by decide)
        · exact key o _ _ ho h1 h2 (by decide)
    · obtain ⟨o, ho, h1, h2⟩ := hh
      exact key o _ _ ho h1 h2 (by decide)
  | _ => cases ht
end
end Lw
end
section
namespace Lw
open PySem PySem.Calls PyProof.Rows PySem.W

noncomputable def ItIn (it : Addr) (O : Own) : Prop := ∃ c, (it, c) ∈ O ∧ ((∃ ds, c = .iter ds) ∨ ∃ l i, c = .lit l i)
theorem OUp.mem' {O O' : Own} {a : Addr} {c c' : Cont} (h : OUp O a c c' O') : (a, c') ∈ O' := by
  induction h with
  | here => exact .head _
  | there _ ih => exact .tail _ ih
section
variable {Γ : Gam} {A : Around} {env : Env} {ρ κ : Rho} {O : Own}
noncomputable def NxT (Γ : Gam) (A : Around) (O : Own) (it : Addr) (Q : Option D → Own → Prop) : Prop := Nx Γ A O it fun od O₁ => (od.isSome = true → ItIn it O₁) ∧ Q od O₁
theorem NxT.item {it : Addr} {d : D} {ds : List D} {O' : Own} {Q : Option D → Own → Prop} (u : OUp O it (.iter (d :: ds)) (.iter ds) O') (q : Q (some d) O') : NxT Γ A O it Q := Nx.item u ⟨fun _ => ⟨_, u.mem', .inl ⟨_, rfl⟩⟩, q⟩
theorem NxT.stop {it : Addr} {O' : Own} {Q : Option D → Own → Prop} (hh : A.handled = none) (m : (it, .iter []) ∈ O) (u : ODel O it O') (q : Q none O') : NxT Γ A O it Q := Nx.stop hh m u ⟨fun h => (by cases h), q⟩
theorem NxT.litItem {it l : Addr} {i : Nat} {d : D} {ds : List D} {O' : Own} {Q : Option D → Own → Prop} (u : OUp O it (.lit l i) (.lit l (i + 1)) O') (m : (l, .list ds) ∈ O) (hd : ds[i]? = some d) (q : Q (some d) O') : NxT Γ A O it Q := Nx.litItem u m hd ⟨fun _ => ⟨_, u.mem', .inr ⟨_, _, rfl⟩⟩, q⟩
theorem NxT.litStop {it l : Addr} {i : Nat} {ds : List D} {O' : Own} {Q : Option D → Own → Prop} (hh : A.handled = none) (m₀ : (it, .lit l i) ∈ O) (u : ODel O it O') (m : (l, .list ds) ∈ O) (hd : ds[i]? = none) (q : Q none O') : NxT Γ A O it Q := Nx.litStop hh m₀ u m hd ⟨fun h => (by cases h), q⟩
theorem noE {M : Model} {E : Value → Shared → Prop} {α : Type} {t : Sem α} {Q : α → Shared → Prop} {s : Shared} (h : wpAny M A t Q (fun _ _ => False) s) : wpAny M A t Q E s := wpAny_mono h (fun _ _ x => x) fun _ _ e => e.elim

noncomputable def Turn (Γ : Gam) (A : Around) (env : Env) (target : Expr) (body : List Stmt) (it : Addr) (Q : Fl → Rho → Rho → Own → Prop) (Inv : Nat → Rho → Rho → Own → Prop) (n : Nat) (ρ κ : Rho) (O : Own) : Prop :=
  NxT Γ A O it fun od O₁ => match od with
    | none => Q .next ρ κ O₁
    | some d => As Γ A env ρ κ O₁ (assign target env) d fun ρ₂ κ₂ O₂ => Ss Γ A env ρ₂ κ₂ O₂ body fun f ρ₃ κ₃ O₃ => match f with
      | .brk => Q .next ρ₃ κ₃ O₃
      | .ret d => Q (.ret d) ρ₃ κ₃ O₃
      | _ => ∃ m ρ' O', m < n ∧ Fgt ρ₃ ρ' ∧ OS O' O₃ ∧ Inv m ρ' κ₃ O'
theorem S1.for {target iter : Expr} {body : List Stmt} {pos : Pos} {Q : Fl → Rho → Rho → Own → Prop} (Inv : Addr → Nat → Rho → Rho → Own → Prop)
    (h : Ev Γ A env ρ κ O iter fun d O₁ => GetI Γ A O₁ d fun I O₂ => ∃ n ρ', Fgt ρ ρ' ∧ Inv I n ρ' κ O₂)
    (turn : ∀ I n ρ' κ' O', Inv I n ρ' κ' O' → Turn Γ A env target body I Q (Inv I) n ρ' κ' O')
    (hp : PairT target = true) (hs : ∀ x, foldedSetIterable iter env x = pure x) : S1 Γ A env ρ κ O (.For target iter body [] pos) Q := fun g s ok F => by
  refine wpAny_For (T.use (h g s ok F) (fun v s₁ g₁ O₁ d G₁ i h₁ => T.use (h₁ g₁ s₁ v G₁.ok i) (fun u s₂ g₂ O₂ I G₂ e hq9 => ?_))) hs
  obtain ⟨n, ρ', hf, hI⟩ := hq9
  subst e
  refine codeAny_forLoop_any (fun n s' => ∃ g' ρ' κ' O', Gs Γ env g s κ O g' s' ρ' κ' O' ∧ Inv I n ρ' κ' O') ?_ n ⟨g₂, ρ', κ, O₂, (Gs.ofGo F (G₁.trans G₂)).forget hf .refl, hI⟩
  rintro n s' ⟨g', ρ', κ', O', G, hI⟩
  refine noE (T.use (turn I n ρ' κ' O' hI g' s' G.ok) (fun r s₃ g₃ O₃ od G₃ hr hq9 => ?_))
  obtain ⟨hit, hq⟩ := hq9
  cases hr with
  | none => exact noE (wpAny_execs_nil ⟨g₃, ρ', κ', O₃, .next, G.trans (.ofGo G.fr G₃), .next, hq⟩)
  | some iv =>
    obtain ⟨c, hm, hc⟩ := hit rfl
    refine letGo_of G₃.ok hm hc hp ?_
    refine noE (As.use (hq g₃ s₃ _ G₃.ok (G.fr.go G₃) iv) (fun _ s₄ g₄ ρ₄ κ₄ O₄ G₄ hb => ?_))
    refine noE (Fx.use (hb g₄ s₄ G₄.ok G₄.fr) (fun f s₅ g₅ ρ₅ κ₅ O₅ fl G₅ hf hq => ?_))
    have Gall := ((G.trans (.ofGo G.fr G₃)).trans G₄).trans G₅
    cases hf with
    | next =>
      obtain ⟨m, ρ₆, O₆, hlt, hfg, hsub, hI'⟩ := hq
      exact ⟨m, hlt, g₅, ρ₆, κ₅, O₆, Gall.forget hfg hsub, hI'⟩
    | cont =>
      obtain ⟨m, ρ₆, O₆, hlt, hfg, hsub, hI'⟩ := hq
      exact ⟨m, hlt, g₅, ρ₆, κ₅, O₆, Gall.forget hfg hsub, hI'⟩
    | brk => exact ⟨g₅, ρ₅, κ₅, O₅, .next, Gall, .next, hq⟩
    | ret a => exact ⟨g₅, ρ₅, κ₅, O₅, .ret _, Gall, .ret a, hq⟩

noncomputable abbrev KFi1 (ρ κ : Rho) {σ : Type} (R K : σ → Rho) (W : σ → Own) (P : σ → List D → Prop) (I : Addr) (O : Own) (st : σ) : List D → Prop := fun ds => Fgt ρ (R st) ∧ κ = K st ∧ O = (I, .iter ds) :: W st ∧ P st ds
noncomputable abbrev KFi2 (ρ κ : Rho) {σ : Type} (R K : σ → Rho) (W : σ → Own) (P : σ → List D → Prop) (I : Addr) (O : Own) : σ → Prop := fun st => Exists (KFi1 ρ κ R K W P I O st)
noncomputable abbrev KFi (ρ κ : Rho) {σ : Type} (R K : σ → Rho) (W : σ → Own) (P : σ → List D → Prop) : Addr → Own → Prop := fun I O => Exists (KFi2 ρ κ R K W P I O)
noncomputable abbrev KFo1 (c : Cont) {σ : Type} (R K : σ → Rho) (W : σ → Own) (P : σ → List D → Prop) (I : Addr) (ds : List D) (ρ κ : Rho) (O : Own) : σ → Prop := fun st => Fgt ρ (R st) ∧ κ = K st ∧ OS ((I, c) :: W st) O ∧ P st ds
noncomputable abbrev KFo (c : Cont) {σ : Type} (R K : σ → Rho) (W : σ → Own) (P : σ → List D → Prop) (Q : Fl → Rho → Rho → Own → Prop) (I : Addr) (ds : List D) : Fl → Rho → Rho → Own → Prop := fun f ρ κ O => match f with
      | .brk => Q .next ρ κ O
      | .ret d => Q (.ret d) ρ κ O
      | _ => Exists (KFo1 c R K W P I ds ρ κ O)
noncomputable abbrev KBd (Γ : Gam) (A : Around) (env : Env) (body : List Stmt) (Q : Fl → Rho → Rho → Own → Prop) : Rho → Rho → Own → Prop := fun ρ κ O => Ss Γ A env ρ κ O body Q
theorem S1.forIn {target iter : Expr} {body : List Stmt} {pos : Pos} {Q : Fl → Rho → Rho → Own → Prop} {σ : Type} (R K : σ → Rho) (W : σ → Own) (P : σ → List D → Prop) (hh : A.handled = none)
    (h : Ev Γ A env ρ κ O iter (KGi Γ A (KFi ρ κ R K W P)))
    (turn : ∀ I st d ds, P st (d :: ds) → As Γ A env (R st) (K st) ((I, .iter ds) :: W st) (assign target env) d (KBd Γ A env body (KFo (.iter ds) R K W P Q I ds)))
    (fin : ∀ st, P st [] → Q .next (R st) (K st) (W st))
    (hp : PairT target = true) (hs : ∀ x, foldedSetIterable iter env x = pure x) : S1 Γ A env ρ κ O (.For target iter body [] pos) Q := by
  refine S1.for (fun I n ρ' κ' O' => ∃ st ds, n = ds.length ∧ ρ' = R st ∧ κ' = K st ∧ O' = (I, .iter ds) :: W st ∧ P st ds) (fun g s ok F => ?_) ?_ hp hs
  · refine (h g s ok F).mono fun d O₁ h₁ g s v ok i => (h₁ g s v ok i).mono fun I O₂ ⟨st, ds, a, b, c, d⟩ => ⟨ds.length, R st, a, st, ds, rfl, rfl, b, c, d⟩
  · rintro I n ρ' κ' O' ⟨st, ds, rfl, rfl, rfl, rfl, hP⟩
    unfold Turn
    cases ds with
    | nil => exact .stop hh (.head _) .here (fin st hP)
    | cons d ds =>
      refine .item .here ?_
      intro g s v ok F i
      refine As.use (turn I st d ds hP g s v ok F i) (fun _ s₁ g₁ ρ₁ κ₁ O₁ G₁ h₁ => ⟨g₁, ρ₁, κ₁, O₁, G₁, h₁.mono fun f ρ₃ κ₃ O₃ q => ?_⟩)
      cases f with
      | brk => exact q
      | ret d => exact q
      | next =>
        obtain ⟨st', a, b, c, d⟩ := q
        exact ⟨ds.length, R st', _, Nat.lt_succ_self _, a, c, st', ds, rfl, rfl, b, rfl, d⟩
      | cont =>
        obtain ⟨st', a, b, c, d⟩ := q
        exact ⟨ds.length, R st', _, Nat.lt_succ_self _, a, c, st', ds, rfl, rfl, b, rfl, d⟩
theorem S1.forLit {target iter : Expr} {body : List Stmt} {pos : Pos} {Q : Fl → Rho → Rho → Own → Prop} {σ : Type} (R K : σ → Rho) (W : σ → Own) (P : σ → List D → Prop) (l : Addr) (xs : List D) (hl : ∀ st, (l, .list xs) ∈ W st) (hh : A.handled = none)
    (h : Ev Γ A env ρ κ O iter fun d O₁ => GetI Γ A O₁ d fun I O₂ => ∃ st, Fgt ρ (R st) ∧ κ = K st ∧ O₂ = (I, .lit l 0) :: W st ∧ P st xs)
    (turn : ∀ I st i d ds, P st (d :: ds) → As Γ A env (R st) (K st) ((I, .lit l i) :: W st) (assign target env) d (KBd Γ A env body (KFo (.lit l i) R K W P Q I ds)))
    (fin : ∀ st, P st [] → Q .next (R st) (K st) (W st))
    (hp : PairT target = true) (hs : ∀ x, foldedSetIterable iter env x = pure x) : S1 Γ A env ρ κ O (.For target iter body [] pos) Q := by
  refine S1.for (fun I n ρ' κ' O' => ∃ st i, n + i = xs.length ∧ ρ' = R st ∧ κ' = K st ∧ O' = (I, .lit l i) :: W st ∧ P st (xs.drop i)) (fun g s ok F => ?_) ?_ hp hs
  · refine (h g s ok F).mono fun d O₁ h₁ g s v ok i => (h₁ g s v ok i).mono fun I O₂ ⟨st, a, b, c, d⟩ => ⟨xs.length, R st, a, st, 0, rfl, rfl, b, c, d⟩
  · rintro I n ρ' κ' O' ⟨st, i, hn, rfl, rfl, rfl, hP⟩
    unfold Turn
    cases hx : xs.drop i with
    | nil =>
      rw [hx] at hP
      exact .litStop hh (.head _) .here (.tail _ (hl st)) (List.getElem?_eq_none (List.drop_eq_nil_iff.mp hx)) (fin st hP)
    | cons d ds =>
      rw [hx] at hP
      have hi : i < xs.length := by
        rcases Nat.lt_or_ge i xs.length with z | z
        · exact z
        · rw [List.drop_eq_nil_of_le z] at hx; cases hx
      rw [List.drop_eq_getElem_cons hi] at hx
      obtain ⟨hd, hds⟩ := List.cons.inj hx
      refine .litItem .here (.tail _ (hl st)) (by rw [List.getElem?_eq_getElem hi, hd]) ?_
      intro g s v ok F iv
      refine As.use (turn I st (i + 1) d ds hP g s v ok F iv) (fun _ s₁ g₁ ρ₁ κ₁ O₁ G₁ h₁ => ⟨g₁, ρ₁, κ₁, O₁, G₁, h₁.mono fun f ρ₃ κ₃ O₃ q => ?_⟩)
      cases f with
      | brk => exact q
      | ret d => exact q
      | next =>
        obtain ⟨st', a, b, c, d⟩ := q
        exact ⟨n - 1, R st', _, by exact om_189 hn hi, a, c, st', i + 1, by exact om_190 hn hi, rfl, b, rfl, by rw [hds]; exact d⟩
      | cont =>
        obtain ⟨st', a, b, c, d⟩ := q
        exact ⟨n - 1, R st', _, by exact om_189 hn hi, a, c, st', i + 1, by exact om_190 hn hi, rfl, b, rfl, by rw [hds]; exact d⟩
end
end Lw
end
section
namespace Lw
open PySem PySem.Calls PyProof.Rows PySem.W

section
variable {Γ : Gam} {A : Around} {env : Env} {ρ κ : Rho} {O : Own}

noncomputable def Cl (Γ : Gam) (A : Around) (env : Env) (ρ κ : Rho) (O : Own) (c : Code) (Q : Rho → Rho → Own → Prop) : Prop :=
  ∀ g s, Okb Γ g s O → Frm env g s.heap O ρ κ → codeAny Γ.M A c (fun r s' => match r with | .ok _ => ∃ g' ρ' κ' O', Gs Γ env g s κ O g' s' ρ' κ' O' ∧ Q ρ' κ' O' | .error _ => False) s
noncomputable def Tl (Γ : Gam) (A : Around) (env : Env) (ρ κ : Rho) (O : Own) (t : Sem Fin → Sem Fin) (Q : Rho → Rho → Own → Prop) : Prop :=
  ∀ g s, Okb Γ g s O → Frm env g s.heap O ρ κ → ∀ (k : Sem Fin) (R : Fin → Shared → Prop) (E : Value → Shared → Prop), (∀ g' s' ρ' κ' O', Gs Γ env g s κ O g' s' ρ' κ' O' → Q ρ' κ' O' → wpAny Γ.M A k R E s') → wpAny Γ.M A (t k) R E s
noncomputable def emitL (elt : Expr) (acc : Value) (env : Env) (k : Sem Fin) : Sem Fin := (do let _ ← call (.builtin "list.append") [acc, ← eval elt env]) >>= fun (_ : Unit) => k
noncomputable def innerL (e : Expr) (iter : Expr) (n : Nat) (acc : Value) (env : Env) (k : Sem Fin) : Sem Fin := do
  let x ← eval iter env
  standAt iter.pos
  let x ← foldedSetIterable iter env x
  let _ ← runOwn (.compStart e n (← holding [x] (pyIter x)) acc env) env
  k
noncomputable def turnL (e : Expr) (k : Nat) (target iter : Expr) (ifs : List Expr) (tail : Sem Fin → Sem Fin) (it acc : Value) (env : Env) : Sem Fin := do
  standAt iter.pos
  match ← pyNext it with
  | none => pure (.done .next)
  | some v =>
    letOwnedTupleGo target it v
    assign target env v
    let mut ok := true
    for c in ifs do
      if ok then ok ← isTrue c env (eval c env)
    if ok then tail (again (.compLoop e k it acc env)) else again (.compLoop e k it acc env)
theorem turn_one (elt target iter : Expr) (ifs : List Expr) (scope : Scope) (pos : Pos) (it acc : Value) (env : Env) :
    compTurn (.ListComp elt [⟨target, iter, ifs, 0⟩] scope pos) 0 it acc env = turnL (.ListComp elt [⟨target, iter, ifs, 0⟩] scope pos) 0 target iter ifs (emitL elt acc env) it acc env := rfl
theorem turn_two0 (elt target iter t2 i2 : Expr) (ifs f2 : List Expr) (scope : Scope) (pos : Pos) (it acc : Value) (env : Env) :
    compTurn (.ListComp elt [⟨target, iter, ifs, 0⟩, ⟨t2, i2, f2, 0⟩] scope pos) 0 it acc env = turnL (.ListComp elt [⟨target, iter, ifs, 0⟩, ⟨t2, i2, f2, 0⟩] scope pos) 0 target iter ifs (innerL (.ListComp elt [⟨target, iter, ifs, 0⟩, ⟨t2, i2, f2, 0⟩] scope pos) i2 1 acc env) it acc env := rfl
theorem turn_two1 (elt target iter t2 i2 : Expr) (ifs f2 : List Expr) (scope : Scope) (pos : Pos) (it acc : Value) (env : Env) :
    compTurn (.ListComp elt [⟨target, iter, ifs, 0⟩, ⟨t2, i2, f2, 0⟩] scope pos) 1 it acc env = turnL (.ListComp elt [⟨target, iter, ifs, 0⟩, ⟨t2, i2, f2, 0⟩] scope pos) 1 t2 i2 f2 (emitL elt acc env) it acc env := rfl

noncomputable def Ifs (Γ : Gam) (A : Around) (env : Env) (ρ κ : Rho) (O : Own) (ifs : List Expr) (Q : Bool → Own → Prop) : Prop :=
  ∀ g s, Okb Γ g s O → Frm env g s.heap O ρ κ → T Γ A (forIn ifs true fun c r => if r = true then do let ok ← isTrue c env (eval c env); pure (ForInStep.yield ok) else pure (ForInStep.yield r)) (fun _ b c => b = c) g s O Q
theorem Ifs.nil {Q : Bool → Own → Prop} (q : Q true O) : Ifs Γ A env ρ κ O [] Q := fun g s ok F => wpAny_tests_nil ⟨g, O, true, .refl ok, rfl, q⟩
theorem Ifs.one {c : Expr} {Q : Bool → Own → Prop} (h : Te Γ A env ρ κ O c Q) : Ifs Γ A env ρ κ O [c] Q := fun g s ok F => wpAny_tests_one (h g s ok F)
theorem Tl.emit {elt : Expr} {acc : Addr} {Q : Rho → Rho → Own → Prop} (h : Ev Γ A env ρ κ O elt fun d O₁ => ∃ ds O', OUp O₁ acc (.list ds) (.list (ds ++ [d])) O' ∧ ds.length ≤ sizeLine ∧ Q ρ κ O') : Tl Γ A env ρ κ O (emitL elt (.ref acc) env) Q := fun g s ok F k R E hk =>
  wpAny_bind (wpAny_bind (noE (T.use (h g s ok F) (fun v s₁ g₁ O₁ d G₁ i hq9 => by obtain ⟨ds, O', u, hl, q⟩ := hq9; exact wpAny_bind (noE (T.use (Ca.append (Q := fun d O₂ => O₂ = O') u hl rfl g₁ s₁ [.ref acc, v] [] G₁.ok (.cons (.v _) (.cons i .nil)) .nil) (fun _ s₂ g₂ O₂ d₂ G₂ _ e => by
    subst e
    exact wpAny_pure (hk g₂ s₂ ρ κ O₂ (.ofGo F (G₁.trans G₂)) q))))))))
theorem Cl.start {e : Expr} {k : Nat} {it acc : Addr} {Q : Rho → Rho → Own → Prop} (hit : ItIn it O) (hgo : ∃ g0 gs s p, e = .ListComp g0 gs s p ∧ ∃ g1, gs[k]? = some g1 ∧ g1.is_async = 0)
    (h : Cl Γ A env ρ κ O (.compLoop e k (.ref it) (.ref acc) env) Q) : Cl Γ A env ρ κ O (.compStart e k (.ref it) (.ref acc) env) Q := fun g s ok F => by
  obtain ⟨elt, gens, scope, pos, rfl, g1, hg1, ha⟩ := hgo
  obtain ⟨c, hm, hc⟩ := hit
  refine codeAny_of_tree ?_
  show wpAny _ _ ((compStart (.ListComp elt gens scope pos) k (.ref it) (.ref acc) env).onRaise (fun x => do noteFrame x env; standAt theWindowsPlace)) _ _ s
  refine wpAny_notedAt ?_
  unfold compStart
  have hcl : (clausesOf (.ListComp elt gens scope pos))[k]? = some g1 := hg1
  simp only [hcl, Option.elim_some, ha]
  show wpAny _ _ (ask >>= _) _ _ s
  refine wpAny_bind (wpAny_askSetting (wpAny_ite ?_))
  split
  · exact wpAny_pure (And.intro rfl (h g s ok F))
  · refine wpAny_bind (wpAny_rule ?_)
    refine wpAny_bind (wpAny_standAt (wpAny_bind (selfI ok hm hc (wpAny_pure (And.intro rfl (h g s ok F))))))
theorem Tl.inner {e iter : Expr} {n : Nat} {acc : Addr} {Q : Rho → Rho → Own → Prop} (hs : ∀ x, foldedSetIterable iter env x = pure x) (h : Ev Γ A env ρ κ O iter fun d O₁ => GetI Γ A O₁ d fun I O₂ => Cl Γ A env ρ κ O₂ (.compStart e n (.ref I) (.ref acc) env) Q) :
    Tl Γ A env ρ κ O (innerL e iter n (.ref acc) env) Q := fun g s ok F k R E hk => by
  unfold innerL
  refine wpAny_bind (noE (T.use (h g s ok F) (fun v s₁ g₁ O₁ d G₁ i h₁ => ?_)))
  refine wpAny_bind (wpAny_standAt (wpAny_bind (wpAny_of_eq (hs v) ?_)))
  refine wpAny_bind (wpAny_holding (noE (T.use (h₁ g₁ s₁ v G₁.ok i) (fun u s₂ g₂ O₂ I G₂ e h₂ => ?_))))
  subst e
  have G := Gs.ofGo F (G₁.trans G₂)
  refine wpAny_bind (wpAny_runOwn (codeAny_mono (h₂ g₂ s₂ G.ok G.fr) fun r s₃ hr => ?_))
  cases r with
  | error e => exact hr.elim
  | ok f =>
    obtain ⟨g₃, ρ₃, κ₃, O₃, G₃, q⟩ := hr
    exact hk g₃ s₃ ρ₃ κ₃ O₃ (G.trans G₃) q

theorem Cl.loop {e target iter : Expr} {ifs : List Expr} {k : Nat} {tail : Sem Fin → Sem Fin} {it acc : Addr} {n : Nat} {Q : Rho → Rho → Own → Prop} (Inv : Nat → Rho → Rho → Own → Prop)
    (ht : compTurn e k (.ref it) (.ref acc) env = turnL e k target iter ifs tail (.ref it) (.ref acc) env) (hq : ∃ a b c d, e = .ListComp a b c d) (hp : PairT target = true)
    (h0 : ∃ ρ', Fgt ρ ρ' ∧ Inv n ρ' κ O)
    (turn : ∀ n ρ κ O, Inv n ρ κ O → NxT Γ A O it fun od O₁ => match od with
      | none => Q ρ κ O₁
      | some d => As Γ A env ρ κ O₁ (assign target env) d fun ρ₂ κ₂ O₂ => Ifs Γ A env ρ₂ κ₂ O₂ ifs fun b O₃ =>
        if b = true then Tl Γ A env ρ₂ κ₂ O₃ tail fun ρ₃ κ₃ O₄ => ∃ m ρ' O', m < n ∧ Fgt ρ₃ ρ' ∧ OS O' O₄ ∧ Inv m ρ' κ₃ O'
        else ∃ m ρ' O', m < n ∧ Fgt ρ₂ ρ' ∧ OS O' O₃ ∧ Inv m ρ' κ₂ O') : Cl Γ A env ρ κ O (.compLoop e k (.ref it) (.ref acc) env) Q := fun g s ok F => by
  obtain ⟨a, b, c, d, rfl⟩ := hq
  obtain ⟨ρ₀, hf0, hI0⟩ := h0
  refine codeAny_loop rfl (fun n s' => ∃ g' ρ' κ' O', Gs Γ env g s κ O g' s' ρ' κ' O' ∧ Inv n ρ' κ' O') (fun n s' hI => ?_) n ⟨g, ρ₀, κ, O, (Gs.ofGo F (.refl ok)).forget hf0 .refl, hI0⟩
  obtain ⟨g', ρ', κ', O', G, hI⟩ := hI
  show wpAny _ A ((compTurn (.ListComp a b c d) k (.ref it) (.ref acc) env).onRaise (fun x => do noteFrame x env; theTreesLotGoes x)) _ _ s'
  refine wpAny_noted ?_
  rw [ht]
  unfold turnL
  refine wpAny_bind (wpAny_standAt (wpAny_bind (noE (T.use (turn n ρ' κ' O' hI g' s' G.ok) (fun r s₃ g₃ O₃ od G₃ hr hq9 => ?_)))))
  obtain ⟨hit, hq⟩ := hq9
  cases hr with
  | none => exact wpAny_pure ⟨g₃, ρ', κ', O₃, G.trans (.ofGo G.fr G₃), hq⟩
  | some iv =>
    obtain ⟨c, hm, hc⟩ := hit rfl
    refine wpAny_bind (letGo_of G₃.ok hm hc hp ?_)
    refine wpAny_bind (noE (As.use (hq g₃ s₃ _ G₃.ok (G.fr.go G₃) iv) (fun _ s₄ g₄ ρ₄ κ₄ O₄ G₄ hb => ?_)))
    refine wpAny_bind (noE (T.use (hb g₄ s₄ G₄.ok G₄.fr) (fun ok' s₅ g₅ O₅ b' G₅ hbb hq => ?_)))
    subst hbb
    have Gall := ((G.trans (.ofGo G.fr G₃)).trans G₄).trans (.ofGo G₄.fr G₅)
    cases ok' with
    | false =>
      obtain ⟨m, ρ₆, O₆, hlt, hfg, hsub, hI'⟩ := hq
      exact wpAny_pure ⟨rfl, m, hlt, g₅, ρ₆, κ₄, O₆, Gall.forget hfg hsub, hI'⟩
    | true =>
      refine hq g₅ s₅ Gall.ok Gall.fr _ _ _ fun g₆ s₆ ρ₆ κ₆ O₆ G₆ hh => ?_
      obtain ⟨m, ρ₇, O₇, hlt, hfg, hsub, hI'⟩ := hh
      exact wpAny_pure ⟨rfl, m, hlt, g₆, ρ₇, κ₆, O₇, (Gall.trans G₆).forget hfg hsub, hI'⟩

inductive CK (env : Env) (sc : Scope) (cl : List (Str × Addr)) (κ : Rho) : Rho → Prop
  | nil : CK env sc cl κ []
  | cons {p : Str × Option D} {r : Rho} : p ∈ κ → sc.names.lookup p.1 = some .cell ∨ sc.names.lookup p.1 = some .free → cl.lookup p.1 = env.cells.lookup p.1 → (∀ q ∈ r, q.1 ≠ p.1) → CK env sc cl κ r → CK env sc cl κ (p :: r)
theorem CK.mem {sc : Scope} {cl : List (Str × Addr)} {κ κc : Rho} (h : CK env sc cl κ κc) : ∀ p ∈ κc, p ∈ κ ∧ (sc.names.lookup p.1 = some .cell ∨ sc.names.lookup p.1 = some .free) ∧ cl.lookup p.1 = env.cells.lookup p.1 := by
  induction h with
  | nil => exact fun _ h => nomatch h
  | cons a b c _ _ ih =>
    intro q hq
    rcases List.mem_cons.mp hq with rfl | hq
    · exact ⟨a, b, c⟩
    · exact ih q hq
theorem CK.nd {sc : Scope} {cl : List (Str × Addr)} {κ κc : Rho} (h : CK env sc cl κ κc) : (κc.map (·.1)).Nodup := by
  induction h with
  | nil => exact List.nodup_nil
  | cons a b c d _ ih =>
    rw [List.map_cons, List.nodup_cons]
    refine ⟨fun hm => ?_, ih⟩
    obtain ⟨q, hq, e⟩ := List.mem_map.mp hm
    exact d q hq e
theorem Frm.but {g h h' : Heap} {L : Addr} (F : Frm env g h O ρ κ) (hs : Heap.SameBut L h h') (hl : L ≠ env.locals) (hc : ∀ p ∈ κ, env.cells.lookup p.1 ≠ some L) : Frm env g h' O ρ κ := by
  obtain ⟨m, hm, hr⟩ := F.loc
  refine ⟨F.kind, F.glob, F.bi, ⟨m, hm.sameBut hs (Ne.symm hl), hr⟩, F.lk, F.nd, F.gl, F.lo, F.ck, fun p hp => ?_, F.cnd, F.cin⟩
  obtain ⟨h1, ca, h2, h3, h4, h5, ov, hc', h6⟩ := F.cel p hp
  exact ⟨h1, ca, h2, h3, h4, h5, ov, hc'.sameBut hs fun e => hc p hp (e ▸ h2), h6⟩

theorem compRun {elt target iter : Expr} {ifs : List Expr} {rest : List Comprehension} {scope : Scope} {pos p1 : Pos} {cl : List (Str × Addr)} {ρc κc : Rho} {K : Addr → Own → Prop} {g : Heap} {s : Shared} {use : Option (Value → Sem Unit)} {Q : Value → Shared → Prop}
    (ok : Okb Γ g s O) (F : Frm env g s.heap O ρ κ)
    (hclos : closureFor scope env = pure cl) (hkind : scope.kind = .function) (hnames : (scope.names.map (·.1)).Nodup) (hnc : (scope.names.all fun x => !(x.2 == .cell) && !(x.1 == ("__debug__" : Str))) = true)
    (hρ : rho0 scope.names [] = ρc) (hκ : CK env (relabel scope env) cl κ κc) (hs : ∀ x, foldedSetIterable iter env x = pure x)
    (h : Ev Γ A env ρ κ O iter fun d O₁ => GetI Γ A O₁ d fun I O₂ => ItIn I O₂ ∧ ∀ acc L, Cl Γ A (compEnvC scope cl L env) ρc κc ((acc, .list []) :: O₂) (.compStart (.ListComp elt (⟨target, iter, ifs, 0⟩ :: rest) scope pos) 0 (.ref I) (.ref acc) (compEnvC scope cl L env)) fun _ _ O₃ => K acc O₃)
    (hQ : ∀ acc L g' s' O₃ m f, Go Γ g s O g' s' O₃ → K acc O₃ → s'.heap.Ns L m → g'.get? L = none → ¬ dom O₃ L → L ≠ env.locals → (∀ p ∈ κ, env.cells.lookup p.1 ≠ some L) → (dom O L ∨ s.heap.get? L = none) → compPost Γ.M A (fun _ _ => False) use Q (.ref acc) L (.ok f) s') :
    wpAny Γ.M A (comprehension (.ListComp elt (⟨target, iter, ifs, 0⟩ :: rest) scope pos) scope env p1 (newList []) false (eval iter env) use) Q (fun _ _ => False) s := by
  refine wpAny_comprehension_free rfl hs hclos hkind (fun x hx hl => by obtain ⟨a, b⟩ := x; dsimp only at hl; subst hl; exact lookup_of_mem hnames hx) ?_
  refine T.use (h g s ok F) (fun v s₁ g₁ O₁ d G₁ i h₁ => ?_)
  refine T.use (h₁ g₁ s₁ v G₁.ok i) (fun u s₂ g₂ O₂ I G₂ e hq9 => ?_)
  obtain ⟨hit, h₂⟩ := hq9
  subst e
  refine T.use (newListO_T (Γ := Γ) (A := A) (O := O₂) (ds := []) (Q := fun d O₃ => ∃ a, d = .v (.ref a) ∧ O₃ = (a, .list []) :: O₂) G₂.ok .nil (by decide) fun a => ⟨a, rfl, rfl⟩) (fun av s₃ g₃ O₃ d₃ G₃ i₃ hq9 => ?_)
  obtain ⟨acc, e₁, e₂⟩ := hq9
  subst e₁ e₂
  cases i₃
  have hcells : ∀ x ∈ scope.names, x.2 ≠ .cell := fun x hx e => by
    have := List.all_eq_true.mp hnc x hx
    rw [e] at this
    simp at this
  refine wpAny_newFunctionEnv hcells (fun x hx => nomatch hx) (fun h' hns hsb => ?_) hkind
  have G0 := (G₁.trans G₂).trans G₃
  have kp : Sub s₃.heap h' := fun b o e => by
    have hne : b ≠ s₃.heap.objs.size := Nat.ne_of_lt (Heap.lt_size e)
    rw [hsb.2 b hne]
    exact Heap.get?_push_of_some _ e
  have hfree : s₃.heap.get? s₃.heap.objs.size = none := by
    cases q : s₃.heap.get? s₃.heap.objs.size with
    | none => rfl
    | some o => exact absurd (Heap.lt_size q) (Nat.lt_irrefl _)
  have G4 : Go Γ g₃ s₃ ((acc, .list []) :: O₂) g₃ { s₃ with heap := h', toks := s₃.toks + 0 } ((acc, .list []) :: O₂) := Go.sub G₃.ok kp _
  have hgL : g₃.get? s₃.heap.objs.size = none := by
    cases q : g₃.get? s₃.heap.objs.size with
    | none => rfl
    | some o => rw [G₃.ok.keep _ _ q] at hfree; cases hfree
  have hdL : ¬ dom ((acc, .list []) :: O₂) s₃.heap.objs.size := fun hm => by
    obtain ⟨p, hp, e⟩ := List.mem_map.mp hm
    obtain ⟨o, ho⟩ := (G₃.ok.own p hp).1.there
    rw [e, hfree] at ho; cases ho
  have F3 := F.go (G0.trans G4)
  have Fc : Frm (compEnvC scope cl s₃.heap.objs.size env) g₃ h' ((acc, .list []) :: O₂) ρc κc := by
    subst hρ
    refine ⟨hkind, F.glob, F.bi, ⟨_, hns, fun x d hx => by obtain ⟨_, e⟩ := mem_rho0 hx; simp at e⟩, fun p hp => ?_, filterMap_keys (fun a b e => by split at e <;> cases e; rfl) hnames, hgL, hdL, fun p hp => F3.ck p (hκ.mem p hp).1, fun p hp => ?_, hκ.nd, fun p hp q hq e => ?_⟩
    · obtain ⟨z, _⟩ := mem_rho0 (x := p.1) (od := p.2) hp
      refine ⟨lookup_relabel_local (lookup_of_mem hnames z), ?_⟩
      have := List.all_eq_true.mp hnc _ z
      simpa using this
    · obtain ⟨z1, z2, z3⟩ := hκ.mem p hp
      obtain ⟨_, ca, y2, y3, y4, y5, ov, y6, y7⟩ := F3.cel p z1
      refine ⟨z2, ca, z3.trans y2, y3, y4, fun e => ?_, ov, y6, y7⟩
      obtain ⟨_, ca', x2, _, _, _, ov', ⟨oc, x6, _⟩, _⟩ := (F.go G0).cel p z1
      rw [x2] at y2; cases y2
      have e' : ca = s₃.heap.objs.size := e
      rw [e', hfree] at x6; cases x6
    · obtain ⟨z1, _, z3⟩ := hκ.mem p hp
      obtain ⟨w1, _, w3⟩ := hκ.mem q hq
      exact F.cin p z1 q w1 (by rw [← z3, ← w3]; exact e)
  refine codeAny_mono (h₂ acc s₃.heap.objs.size g₃ _ G4.ok Fc) fun r s₅ hr => ?_
  cases r with
  | error e => exact hr.elim
  | ok f =>
    obtain ⟨g₅, ρ₅, κ₅, O₅, G₅, hK⟩ := hr
    obtain ⟨m, hm, _⟩ := G₅.fr.loc
    have hLO : dom O s₃.heap.objs.size ∨ s.heap.get? s₃.heap.objs.size = none := by
      cases q : s.heap.get? s₃.heap.objs.size with
      | none => exact .inr rfl
      | some o =>
        by_cases hd : dom O s₃.heap.objs.size
        · exact .inl hd
        · have := G0.to.pres _ _ q hd
          rw [hfree] at this; cases this
    have G04 := G0.trans G4
    have hX : ∀ b, Xf (compEnvC scope cl s₃.heap.objs.size env) κc ((acc, .list []) :: O₂) b → dom O b ∨ s.heap.get? b = none := fun b hb => by
      rcases hb with hb | ⟨hb, _⟩ | hb
      · have hb : b = s₃.heap.objs.size := hb
        rw [hb]; exact hLO
      · cases hb
      · exact G04.wi b hb
    refine hQ acc _ g₅ s₅ O₅ m f ⟨G₅.ok, G04.to.trans G₅.to hX, wi_trans G04.wi G04.to G₅.wi fun b hb => ?_⟩ hK hm G₅.fr.gl G₅.fr.lo ?_ (fun p hp e => ?_) hLO
    · by_cases hz : b = s₃.heap.objs.size
      · rw [hz]; exact .inr (.inr G₅.fr.lo)
      · rcases (Or.inl hb : dom O b ∨ s.heap.get? b = none) with x | x
        · exact .inl x
        · exact .inr (.inl x)
    · intro e
      obtain ⟨_, ⟨oc, _, _, x6, _⟩, _⟩ := (F.go G0).loc
      have e' : s₃.heap.objs.size = env.locals := e
      rw [← e', hfree] at x6; cases x6
    · obtain ⟨_, ca', x2, _, _, _, ov', ⟨oc, x6, _⟩, _⟩ := (F.go G0).cel p hp
      have e' : env.cells.lookup p.1 = some s₃.heap.objs.size := e
      rw [x2] at e'; cases e'
      rw [hfree] at x6; cases x6

theorem Ev.comp {elt target iter : Expr} {ifs : List Expr} {rest : List Comprehension} {scope : Scope} {pos : Pos} {cl : List (Str × Addr)} (ρc κc : Rho) {Q : D → Own → Prop}
    (hclos : closureFor scope env = pure cl) (hkind : scope.kind = .function) (hnames : (scope.names.map (·.1)).Nodup) (hnc : (scope.names.all fun x => !(x.2 == .cell) && !(x.1 == ("__debug__" : Str))) = true)
    (hρ : rho0 scope.names [] = ρc) (hκ : CK env (relabel scope env) cl κ κc) (hs : ∀ x, foldedSetIterable iter env x = pure x)
    (h : Ev Γ A env ρ κ O iter fun d O₁ => GetI Γ A O₁ d fun I O₂ => ItIn I O₂ ∧ ∀ acc L, Cl Γ A (compEnvC scope cl L env) ρc κc ((acc, .list []) :: O₂) (.compStart (.ListComp elt (⟨target, iter, ifs, 0⟩ :: rest) scope pos) 0 (.ref I) (.ref acc) (compEnvC scope cl L env)) fun _ _ O₃ => ∃ ds O', O₃ = (acc, .list ds) :: O' ∧ Q (.lst ds) O') :
    Ev Γ A env ρ κ O (.ListComp elt (⟨target, iter, ifs, 0⟩ :: rest) scope pos) Q := fun g s ok F => by
  refine compRun (use := none) ok F hclos hkind hnames hnc hρ hκ hs h fun acc L g' s' O₃ m f G hK hm hL hd hl hc hLO => ?_
  obtain ⟨ds, O', e, q⟩ := hK
  subst e
  refine ⟨m, hm, fun h' hs' => ?_⟩
  have ok' := G.ok.but hs' hL hd s'.toks
  have G' : Go Γ g s O g' { s' with heap := h' } ((acc, .list ds) :: O') := ⟨ok', G.to.trans (To.but (X := fun b => b = L) hs' rfl s'.toks) fun b hb => by rw [hb]; exact hLO, G.wi⟩
  obtain ⟨g'', G'', i⟩ := Go.freeze ok'
  exact ⟨g'', O', .lst ds, G'.trans G'', i, q⟩
theorem S1.asComp {t : Str} {tp : Pos} {elt target iter : Expr} {ifs : List Expr} {rest : List Comprehension} {scope : Scope} {pos spos : Pos} {cl : List (Str × Addr)} (ρc κc : Rho) {Q : Fl → Rho → Rho → Own → Prop}
    (hsw : swapsWith (.ListComp elt (⟨target, iter, ifs, 0⟩ :: rest) scope pos) (some (.Name t tp)) spos.line env = pure true)
    (hclos : closureFor scope env = pure cl) (hkind : scope.kind = .function) (hnames : (scope.names.map (·.1)).Nodup) (hnc : (scope.names.all fun x => !(x.2 == .cell) && !(x.1 == ("__debug__" : Str))) = true)
    (hρ : rho0 scope.names [] = ρc) (hκ : CK env (relabel scope env) cl κ κc) (hs : ∀ x, foldedSetIterable iter env x = pure x)
    (h : Ev Γ A env ρ κ O iter fun d O₁ => GetI Γ A O₁ d fun I O₂ => ItIn I O₂ ∧ ∀ acc L, Cl Γ A (compEnvC scope cl L env) ρc κc ((acc, .list []) :: O₂) (.compStart (.ListComp elt (⟨target, iter, ifs, 0⟩ :: rest) scope pos) 0 (.ref I) (.ref acc) (compEnvC scope cl L env)) fun _ _ O₃ => ∃ ds O', O₃ = (acc, .list ds) :: O' ∧ ∃ ρ', Put ρ t (.lst ds) ρ' ∧ Q .next ρ' κ O') :
    S1 Γ A env ρ κ O (.Assign [.Name t tp] (.ListComp elt (⟨target, iter, ifs, 0⟩ :: rest) scope pos) spos) Q := fun g s ok F => by
  rw [exec_Assign_Name_used _ _ _ _ hsw]
  refine wpAny_bind (wpAny_standAt (wpAny_bind ?_))
  show wpAny _ A (do let _ ← comprehension (.ListComp elt (⟨target, iter, ifs, 0⟩ :: rest) scope pos) scope env _ (newList []) false (eval iter env) (some (assign (.Name t tp) env))) _ _ s
  refine wpAny_bind (wpAny_mono (Q := fun _ s' => ∃ g' ρ' κ' O' f, Gs Γ env g s κ O g' s' ρ' κ' O' ∧ FlIn g' .next f ∧ Q f ρ' κ' O') (compRun (use := some (assign (.Name t tp) env)) ok F hclos hkind hnames hnc hρ hκ hs h fun acc L g' s' O₃ m f G hK hm hL hd hl hc hLO => ?_) (fun _ s' hq => wpAny_pure (wpAny_pure hq)) fun _ _ e => e)
  obtain ⟨ds, O', e, ρ', hput, q⟩ := hK
  subst e
  obtain ⟨g'', G'', i⟩ := Go.freeze G.ok
  have G2 := G.trans G''
  show wpAny _ A (assign (.Name t tp) env (.ref acc)) _ _ s'
  refine wpAny_assign_Name (store_loc G2.ok (F.go G2) i hput fun s₂ G₂ => ?_)
  obtain ⟨oL, eL, epL, hoL, hrL⟩ := id hm
  have hL'' : g''.get? L = none := G''.to.none hoL hd hL
  have hd' : ¬ dom O' L := fun x => hd (.tail _ x)
  have hns : s₂.heap.Ns L m := by
    refine hm.at' fun o ho => G₂.to.pres _ _ ho fun x => ?_
    rcases x with x | ⟨_, y, hy, x⟩ | x
    · exact hl x
    · obtain ⟨p, hp, rfl⟩ := List.mem_map.mp hy
      exact hc p hp x
    · exact hd' x
  refine ⟨m, hns, fun h' hs' => ⟨g'', ρ', κ, O', .next, ?_, .next, q⟩⟩
  have Gall := (Gs.ofGo F G2).trans G₂
  refine ⟨Gall.ok.but hs' hL'' hd' s₂.toks, Gall.fr.but hs' hl hc, Gall.to.trans (To.but (X := fun b => b = L) hs' rfl s₂.toks) fun b hb => ?_, Gall.wi, Gall.ks⟩
  rw [hb]
  exact hLO.imp (fun x => .inr (.inr x)) id
end
end Lw
end
section
namespace Lw
open PySem PySem.Calls PyProof.Rows PySem.W
section
variable {Γ : Gam} {A : Around} {env : Env} {ρ κ : Rho} {O : Own}
noncomputable abbrev KBc3 (ρc κc ρ κ : Rho) (W : Own) (r : Option D) : D → Own → Prop := fun e O => (O = W ∧ r = some e) ∧ κ = κc ∧ Fgt ρ ρc
noncomputable abbrev KBc2 (Γ : Gam) (A : Around) (env : Env) (ρc κc ρ κ : Rho) (elt : Expr) (W : Own) (r : Option D) : Bool → Own → Prop := fun b O => if b = true then Ev Γ A env ρ κ O elt (KBc3 ρc κc ρ κ W r) else (O = W ∧ r = none) ∧ κ = κc ∧ Fgt ρ ρc
noncomputable abbrev KBc (Γ : Gam) (A : Around) (env : Env) (ρc κc : Rho) (ifs : List Expr) (elt : Expr) (W : Own) (r : Option D) : Rho → Rho → Own → Prop := fun ρ κ O => Ifs Γ A env ρ κ O ifs (KBc2 Γ A env ρc κc ρ κ elt W r)
noncomputable def BodyC (Γ : Gam) (A : Around) (cenv : Env) (ρc κc : Rho) (target : Expr) (ifs : List Expr) (elt : Expr) (d : D) (r : Option D) : Prop :=
  ∀ O, As Γ A cenv ρc κc O (assign target cenv) d (KBc Γ A cenv ρc κc ifs elt O r)
theorem Ifs.mono {ifs : List Expr} {Q Q' : Bool → Own → Prop} (h : Ifs Γ A env ρ κ O ifs Q) (k : ∀ d O', Q d O' → Q' d O') : Ifs Γ A env ρ κ O ifs Q' := fun g s ok F => (h g s ok F).mono k
theorem As.mono {t : Value → Sem Unit} {d : D} {Q Q' : Rho → Rho → Own → Prop} (h : As Γ A env ρ κ O t d Q) (k : ∀ ρ' κ' O', Q ρ' κ' O' → Q' ρ' κ' O') : As Γ A env ρ κ O t d Q' := fun g s v ok F i =>
  wpAny_mono (h g s v ok F i) (fun _ _ hx2 => by obtain ⟨g', ρ', κ', O', a, b⟩ := hx2; exact ⟨g', ρ', κ', O', a, k _ _ _ b⟩) fun _ _ e => e

theorem Cl.mapIn {elt target iter : Expr} {ifs : List Expr} {scope : Scope} {pos : Pos} {acc I : Addr} {ds : List D} {W : Own} {Q : Rho → Rho → Own → Prop} (f : D → Option D) (hh : A.handled = none) (hp : PairT target = true)
    (body : ∀ d ∈ ds, BodyC Γ A env ρ κ target ifs elt d (f d)) (hlen : ds.length ≤ sizeLine) (q : Q ρ κ ((acc, .list (ds.filterMap f)) :: W)) :
    Cl Γ A env ρ κ ((acc, .list []) :: (I, .iter ds) :: W) (.compStart (.ListComp elt [⟨target, iter, ifs, 0⟩] scope pos) 0 (.ref I) (.ref acc) env) Q := by
  refine Cl.start ⟨_, .tail _ (.head _), .inl ⟨_, rfl⟩⟩ ⟨_, _, _, _, rfl, _, rfl, rfl⟩ ?_
  refine Cl.loop (n := ds.length) (fun n ρ' κ' O' => ∃ done rest, ds = done ++ rest ∧ n = rest.length ∧ ρ' = ρ ∧ κ' = κ ∧ O' = (acc, .list (done.filterMap f)) :: (I, .iter rest) :: W) (turn_one ..) ⟨_, _, _, _, rfl⟩ hp ⟨ρ, .refl, [], ds, rfl, rfl, rfl, rfl, rfl⟩ ?_
  rintro n ρ' κ' O' ⟨done, rest, hds, rfl, rfl, rfl, rfl⟩
  cases rest with
  | nil =>
    rw [List.append_nil] at hds; subst hds
    exact .stop hh (.tail _ (.head _)) (.there .here) q
  | cons d rest =>
    refine .item (.there .here) ((body d (by rw [hds]; simp) _).mono fun ρ₂ κ₂ O₂ hb => Ifs.mono hb fun b O₃ hb => ?_)
    cases b with
    | true =>
      unfold KBc2 at hb
      rw [if_pos rfl] at hb ⊢
      refine Tl.emit (hb.mono fun e O₄ ⟨⟨e1, e2⟩, e3, e4⟩ => ?_)
      subst e1 e3
      have hl : (done.filterMap f).length ≤ sizeLine := Nat.le_trans (List.length_filterMap_le _ _) (Nat.le_trans (by rw [hds, List.length_append]; exact om_191) hlen)
      refine ⟨done.filterMap f, _, .here, hl, rest.length, ρ', _, Nat.lt_succ_self _, e4, OS.refl, done ++ [d], rest, by rw [hds]; simp, rfl, rfl, rfl, ?_⟩
      rw [List.filterMap_append, List.filterMap_cons, e2]; rfl
    | false =>
      unfold KBc2 at hb
      rw [if_neg (by decide)] at hb ⊢
      obtain ⟨⟨e1, e2⟩, e3, e4⟩ := hb
      subst e1 e3
      refine ⟨rest.length, ρ', _, Nat.lt_succ_self _, e4, OS.refl, done ++ [d], rest, by rw [hds]; simp, rfl, rfl, rfl, ?_⟩
      rw [List.filterMap_append, List.filterMap_cons, e2]; simp
noncomputable abbrev KLo (Q : D → Own → Prop) : List D → Own → Prop := fun l W => Q (.lst l) W
noncomputable abbrev KLoO (Q : D → Own → Prop) : List D → Own → Prop := fun l W => ∀ la, Q (.v (.ref la)) ((la, .list l) :: W)
noncomputable abbrev KLoA (ρ κ : Rho) (t : Str) (Q : Fl → Rho → Rho → Own → Prop) : List D → Own → Prop := fun l W => Exists (KPut ρ t (.lst l) (KNx κ W Q))
noncomputable abbrev KCm2 (Γ : Gam) (A : Around) (env : Env) (scope : Scope) (cl : List (Str × Addr)) (ρc κc : Rho) (target : Expr) (ifs : List Expr) (elt : Expr) (f : D → Option D) (P : List D → Own → Prop) (I : Addr) (O : Own) (ds : List D) : Own → Prop := fun W => O = (I, .iter ds) :: W ∧ (∀ L, ∀ d ∈ ds, BodyC Γ A (compEnvC scope cl L env) ρc κc target ifs elt d (f d)) ∧ ds.length ≤ sizeLine ∧ P (ds.filterMap f) W
noncomputable abbrev KCm1 (Γ : Gam) (A : Around) (env : Env) (scope : Scope) (cl : List (Str × Addr)) (ρc κc : Rho) (target : Expr) (ifs : List Expr) (elt : Expr) (f : D → Option D) (P : List D → Own → Prop) (I : Addr) (O : Own) : List D → Prop := fun ds => Exists (KCm2 Γ A env scope cl ρc κc target ifs elt f P I O ds)
noncomputable abbrev KCm (Γ : Gam) (A : Around) (env : Env) (scope : Scope) (cl : List (Str × Addr)) (ρc κc : Rho) (target : Expr) (ifs : List Expr) (elt : Expr) (f : D → Option D) (P : List D → Own → Prop) : Addr → Own → Prop := fun I O => Exists (KCm1 Γ A env scope cl ρc κc target ifs elt f P I O)
theorem Ev.compM {elt target iter : Expr} {ifs : List Expr} {scope : Scope} {pos : Pos} {cl : List (Str × Addr)} (ρc κc : Rho) (f : D → Option D) {Q : D → Own → Prop} (hh : A.handled = none) (hp : PairT target = true)
    (hclos : closureFor scope env = pure cl) (hkind : scope.kind = .function) (hnames : (scope.names.map (·.1)).Nodup) (hnc : (scope.names.all fun x => !(x.2 == .cell) && !(x.1 == ("__debug__" : Str))) = true)
    (hρ : rho0 scope.names [] = ρc) (hκ : CK env (relabel scope env) cl κ κc) (hs : ∀ x, foldedSetIterable iter env x = pure x)
    (h : Ev Γ A env ρ κ O iter (KGi Γ A (KCm Γ A env scope cl ρc κc target ifs elt f (KLo Q)))) :
    Ev Γ A env ρ κ O (.ListComp elt [⟨target, iter, ifs, 0⟩] scope pos) Q := by
  refine Ev.comp ρc κc hclos hkind hnames hnc hρ hκ hs (h.mono fun d O₁ h₁ g s v ok i => (h₁ g s v ok i).mono fun I O₂ ⟨ds, W, e, hb, hl, q⟩ => ?_)
  subst e
  exact ⟨⟨_, .head _, .inl ⟨_, rfl⟩⟩, fun acc L => Cl.mapIn f hh hp (hb L) hl ⟨_, _, rfl, q⟩⟩
theorem S1.asCompM {t : Str} {tp : Pos} {elt target iter : Expr} {ifs : List Expr} {scope : Scope} {pos spos : Pos} {cl : List (Str × Addr)} (ρc κc : Rho) (f : D → Option D) {Q : Fl → Rho → Rho → Own → Prop} (hh : A.handled = none) (hp : PairT target = true)
    (hsw : swapsWith (.ListComp elt [⟨target, iter, ifs, 0⟩] scope pos) (some (.Name t tp)) spos.line env = pure true)
    (hclos : closureFor scope env = pure cl) (hkind : scope.kind = .function) (hnames : (scope.names.map (·.1)).Nodup) (hnc : (scope.names.all fun x => !(x.2 == .cell) && !(x.1 == ("__debug__" : Str))) = true)
    (hρ : rho0 scope.names [] = ρc) (hκ : CK env (relabel scope env) cl κ κc) (hs : ∀ x, foldedSetIterable iter env x = pure x)
    (h : Ev Γ A env ρ κ O iter (KGi Γ A (KCm Γ A env scope cl ρc κc target ifs elt f (KLoA ρ κ t Q)))) :
    S1 Γ A env ρ κ O (.Assign [.Name t tp] (.ListComp elt [⟨target, iter, ifs, 0⟩] scope pos) spos) Q := by
  refine S1.asComp ρc κc hsw hclos hkind hnames hnc hρ hκ hs (h.mono fun d O₁ h₁ g s v ok i => (h₁ g s v ok i).mono fun I O₂ ⟨ds, W, e, hb, hl, q⟩ => ?_)
  subst e
  exact ⟨⟨_, .head _, .inl ⟨_, rfl⟩⟩, fun acc L => Cl.mapIn f hh hp (hb L) hl ⟨_, _, rfl, q⟩⟩
end
end Lw
end
section
namespace Lw
open PySem PySem.Calls PyProof.Rows PySem.W
section
variable {Γ : Gam} {A : Around} {env : Env} {ρ κ : Rho} {O : Own}

inductive ObjOf (O : Own) : D → Addr → List (Str × D) → Prop
  | frz {C : Addr} {fs : List (Str × D)} : ObjOf O (.inst C fs) C fs
  | own {x C dx : Addr} {fs : List (Str × D)} : (x, .obj C dx) ∈ O → (dx, .dict fs) ∈ O → ObjOf O (.v (.ref x)) C fs
theorem instAt_of {h : Heap} {x C dx : Addr} {es : Array DictEntry} {n : Nat} (a : h.get? x = some (instObj C dx)) (b : h.get? dx = some (dctObj es n)) : PySem.W.InstAt h x (instObj C dx) C (some (dctObj es n)) := ⟨a, rfl, rfl, b⟩
theorem ObjOf.at {g : Heap} {s : Shared} {d : D} {C : Addr} {fs : List (Str × D)} {v : Value} (h : ObjOf O d C fs) (ok : Okb Γ g s O) (i : In g v d) : ∃ x dx es n, v = .ref x ∧ s.heap.get? x = some (instObj C dx) ∧ s.heap.get? dx = some (dctObj es n) ∧ InE g es.toList fs := by
  cases h with
  | frz => cases i with | inst a b c => exact ⟨_, _, _, _, rfl, ok.keep _ _ a, ok.keep _ _ b, c⟩
  | own m m' =>
    cases i
    obtain ⟨⟨es, n, e, r⟩, _⟩ := ok.own _ m'
    exact ⟨_, _, es, n, rfl, (ok.own _ m).1, e, r⟩
theorem lookIn_some {g : Heap} {es : Array DictEntry} {n : Nat} {fs : List (Str × D)} {x : Str} {d : D} (r : InE g es.toList fs) (f : FAt fs x d) : ∃ v, PySem.W.lookIn x (dctObj es n) = some (some v) ∧ In g v d := by
  obtain ⟨e, h1, h2⟩ := r.get f
  exact ⟨e.val, by unfold PySem.W.lookIn; simp only [h1], h2⟩
theorem lookIn_none {g : Heap} {es : Array DictEntry} {n : Nat} {fs : List (Str × D)} {x : Str} (r : InE g es.toList fs) (f : FNo fs x = true) : PySem.W.lookIn x (dctObj es n) = some none := by
  unfold PySem.W.lookIn; simp only [r.no f, r.plain]; rfl
noncomputable def Handed : D → Bool
  | .v v => handedIn v
  | _ => true
theorem handed_of {g : Heap} {v : Value} {d : D} (i : In g v d) (h : Handed d = true) : handedIn v = true := by
  cases i <;> first | exact h | rfl
theorem GetA.own {name : Str} {d e : D} {C : Addr} {fs : List (Str × D)} {attr : Option Value} {Q : D → Own → Prop} (o : ObjOf O d C fs) (f : FAt fs name e)
    (hg : plainGet Γ.K C name = true) (hh : hasDictIn Γ.K C = true) (ha : findIn Γ.K (.ref C) name = some attr) (hn : noGet Γ.K attr = true) (hd : Handed e = true) (q : Q e O) : GetA Γ A O name d Q := fun g s v ok i => by
  obtain ⟨x, dx, es, n, rfl, a, b, r⟩ := o.at ok i
  obtain ⟨w, h1, h2⟩ := lookIn_some (n := n) r f
  exact get_value ok.kin (instAt_of a b) (plainGet_of hg).1 (findObj_own hh ha hn h1) (handed_of h2 hd) (T.val ok _ h2 q)
theorem GetA.cls {name : Str} {C : Addr} {mc v : Value} {d : D} {Q : D → Own → Prop} (hr : readsIn Γ.K C mc = true) (e : findCls Γ.K (.ref C) mc name = some (.val v)) (hh : handedIn v = true) (i : ∀ g, In g v d) (q : Q d O) : GetA Γ A O name (.v (.ref C)) Q := fun g s w ok j => by
  cases j
  exact cls_value ok.kin hr e hh (T.val ok _ (i g) q)
theorem GetM.inst {name : Str} {d : D} {C f : Addr} {fs : List (Str × D)} {K : Value → List D → Own → Prop} (o : ObjOf O d C fs) (hs : FNo fs name = true) (hg : plainGet Γ.K C name = true)
    (hf : findIn Γ.K (.ref C) name = some (some (.ref f))) (ht : typeIn Γ.K (.ref f) = some (.type "function")) (q : K (.ref f) [d] O) : GetM Γ A O name d K := fun pl g s v ok i => by
  obtain ⟨x, dx, es, n, rfl, a, b, r⟩ := o.at ok i
  exact method_fn ok.kin (instAt_of a b) (plainGet_of hg).1 (plainGet_of hg).2 hf ht (by show (PySem.W.lookIn name (dctObj es n)).map _ = _; rw [lookIn_none r hs]; rfl) ⟨g, O, [d], .refl ok, .cons i .nil, q⟩

noncomputable def SetA (Γ : Gam) (A : Around) (O : Own) (name : Str) (a b : D) (Q : Own → Prop) : Prop :=
  ∀ g s v w, Okb Γ g s O → In g v a → In g w b → T Γ A (setAttr v name w) (fun _ _ _ => True) g s O (fun (_ : Unit) O' => Q O')
theorem osa_own {K : Frag} {prog : Program} {w : World} {C x dx : Addr} {s : Shared} {R : Result → Shared → Prop} {name : Str} {tk : Tok} {v : Value} {es : Array DictEntry} {n : Nat} (X : K.In s.heap) (a : s.heap.get? x = some (instObj C dx)) (D : s.heap.get? dx = some (dctObj es n))
    (hp : plainOver K C = true) (ht : takerIn K C name = some none) (hh : (clsIn K C).any (·.hasDict) = true)
    (h1 : es.toList.find? (·.key.isStr name) = none) (h2 : es.toList.any (·.refKey) = false) (hz : es.size ≤ 1000)
    (h : ∀ h' e, Heap.SameBut dx s.heap h' → h'.get? dx = some (dctObj (es.push e) (n + 1)) → e.key = .str name s.toks → e.val = v → R (.ok (.ret .none)) { s with heap := h', toks := s.toks + 1 }) :
    codeAny (model prog w) A (.call (.builtin "object.__setattr__") ⟨[.ref x, .str name tk, v], []⟩) R s := by
  refine osa_open X (instAt_of a D) hp ht fun b => ?_
  obtain ⟨cd, hc, hd'⟩ := any_some hh
  refine wpAny_bind (wpAny_pure (wpAny_bind (wpAny_bind (wpAny_loadPart a (wpAny_bind ((looks_clsIn X hc).here ?_))))))
  rw [hd']
  refine wpAny_pure (a := some dx) (wpAny_bind (wpAny_pure (wpAny_bind ?_)))
  unfold nsSet
  refine wpAny_bind (wpAny_bind (wpAny_askSetting (wpAny_pure (wpAny_bind (wpAny_mkText (wpAny_bind (wpAny_loadPart D ?_)))))))
  dsimp only
  have c : (!es.any (·.key.isStr name) && es.any (·.refKey)) = false := by
    rw [← Array.any_toList, ← Array.any_toList, h2, Bool.and_false]
  rw [aRefKeyMayBeTheName_at, c]
  refine wpAny_updatePart D ?_
  have hi : es.findIdx? (fun x => x.key.isStr name) = none := by
    rw [Array.findIdx?_eq_none_iff]
    exact fun y hy => by simpa using List.find?_eq_none.mp h1 y (by simpa using hy)
  have e' : Obj.putName name (PyData.keyHash w.params name) (.str name s.toks) v (dctObj es n) = dctObj (es.push ⟨PyData.keyHash w.params name, .str name s.toks, v⟩) (n + 1) := by
    simp only [Obj.putName_eq, Obj.putNameByArray, hi]
  have D' : (s.heap.update dx (Obj.putName name (PyData.keyHash w.params name) (.str name s.toks) v)).get? dx = some (dctObj (es.push ⟨PyData.keyHash w.params name, .str name s.toks, v⟩) (n + 1)) := by
    rw [← e']
    exact Heap.get?_update_self _ D (by rw [e']; rfl)
  refine wpAny_bind (wpAny_lookBehind D' (pastItsLine_dict (by rw [Array.size_push, sizeLine_eq]; exact om_153 hz)) ?_)
  exact wpAny_pure (h _ _ (Heap.SameBut.update ..) D' rfl rfl)
theorem SetA.own {name : Str} {x C dx : Addr} {e : D} {fs : List (Str × D)} {O' : Own} {Q : Own → Prop} (m : (x, .obj C dx) ∈ O) (u : OUp O dx (.dict fs) (.dict (fs ++ [(name, e)])) O') (hf : FNo fs name = true) (hz : fs.length ≤ 1000)
    (hs : findIn Γ.K (.ref C) "__setattr__" = some (some (.builtin "object.__setattr__"))) (hp : plainOver Γ.K C = true) (ht : takerIn Γ.K C name = some none) (hh : (clsIn Γ.K C).any (·.hasDict) = true) (q : Q O') : SetA Γ A O name (.v (.ref x)) e Q := fun g s v w ok i j => by
  cases i
  obtain ⟨⟨es, n, b, r⟩, _⟩ := ok.own _ u.mem
  have a := (ok.own _ m).1
  refine set_plain ok.kin (instAt_of a b) hs (osa_own (s := { s with toks := s.toks + 1 }) ok.kin a b hp ht hh (r.no hf) r.plain (by rw [← Array.length_toList, r.length]; exact hz) fun h' en hsb hd hk hv => ?_)
  exact ⟨g, O', (), Go.turn ok u hsb ⟨_, _, hd, by rw [Array.toList_push]; exact r.append (.cons hk (by rw [hv]; exact j) .nil)⟩ _, trivial, q⟩
noncomputable abbrev KNo (ρ κ : Rho) (Q : Rho → Rho → Own → Prop) : Own → Prop := fun O => Q ρ κ O
noncomputable abbrev KSa (Γ : Gam) (A : Around) (x : Str) (d : D) (P : Own → Prop) : D → Own → Prop := fun a O => SetA Γ A O x a d P
noncomputable abbrev KIs2 (Γ : Gam) (A : Around) (a d : D) (P : Own → Prop) : D → Own → Prop := fun b O => Op3 Γ A O setItem a b d P
noncomputable abbrev KIs (Γ : Gam) (A : Around) (env : Env) (ρ κ : Rho) (i : Expr) (d : D) (P : Own → Prop) : D → Own → Prop := fun a O => Ev Γ A env ρ κ O i (KIs2 Γ A a d P)
noncomputable abbrev KNx3 (Q : Fl → Rho → Rho → Own → Prop) : Rho → Rho → Own → Prop := fun ρ κ O => Q .next ρ κ O
noncomputable abbrev KA1 (Γ : Gam) (A : Around) (env : Env) (ρ κ : Rho) (t : Expr) (P : Rho → Rho → Own → Prop) : D → Own → Prop := fun d O => As Γ A env ρ κ O (assign t env) d P
theorem As.attr {o : Expr} {name : Str} {pos : Pos} {d : D} {Q : Rho → Rho → Own → Prop} (h : Ev Γ A env ρ κ O o (KSa Γ A name d (KNo ρ κ Q))) : As Γ A env ρ κ O (assign (.Attribute o name pos) env) d Q := fun g s v ok F i => by
  rw [arm_assign_Attribute]
  refine wpAny_bind (wpAny_holding (T.use (h g s ok F) (fun ov s₁ g₁ O₁ a G₁ ia h₁ => ?_)))
  refine wpAny_bind (wpAny_standAt (wpAny_bind (wpAny_holding (T.use (h₁ g₁ s₁ ov v G₁.ok ia (i.up G₁.to.up)) (fun _ s₂ g₂ O₂ _ G₂ _ q => ?_)))))
  exact wpAny_release ⟨g₂, ρ, κ, O₂, .ofGo F (G₁.trans G₂), q⟩
theorem As.sub {o i : Expr} {pos : Pos} {d : D} {Q : Rho → Rho → Own → Prop} (h : Ev Γ A env ρ κ O o (KIs Γ A env ρ κ i d (KNo ρ κ Q))) : As Γ A env ρ κ O (assign (.Subscript o i pos) env) d Q := fun g s v ok F iv => by
  rw [arm_assign_Subscript]
  refine wpAny_bind (wpAny_holding (T.use (h g s ok F) (fun ov s₁ g₁ O₁ a G₁ ia h₁ => ?_)))
  refine wpAny_bind (wpAny_holding (T.use (h₁ g₁ s₁ G₁.ok (F.go G₁)) (fun kv s₂ g₂ O₂ b G₂ ib h₂ => ?_)))
  refine wpAny_bind (wpAny_standAt (wpAny_bind (wpAny_holding (T.use (h₂ g₂ s₂ ov kv v G₂.ok (ia.up G₂.to.up) ib (iv.up (G₁.trans G₂).to.up)) (fun _ s₃ g₃ O₃ _ G₃ _ q => ?_)))))
  exact wpAny_release ⟨g₃, ρ, κ, O₃, .ofGo F ((G₁.trans G₂).trans G₃), q⟩
theorem S1.as1 {t value : Expr} {pos : Pos} {Q : Fl → Rho → Rho → Own → Prop} (h : Ev Γ A env ρ κ O value (KA1 Γ A env ρ κ t (KNx3 Q)))
    (hs : swapsWithSole [t] value pos.line env = pure false) (hw : swappedStores [t] value env = pure none) (he : (assignEach [t] env).map (·.2) = [assign t env]) : S1 Γ A env ρ κ O (.Assign [t] value pos) Q := fun g s ok F => by
  refine wpAny_Assign_stores (T.use (h g s ok F) (fun v s₁ g₁ O₁ d G₁ i h₁ => ?_)) hs hw
  rw [he]
  exact As.use (h₁ g₁ s₁ v G₁.ok (F.go G₁) i) (fun _ s₂ g₂ ρ₂ κ₂ O₂ G₂ q => ⟨g₂, ρ₂, κ₂, O₂, .next, (Gs.ofGo F G₁).trans G₂, .next, q⟩)
theorem S1.as3 {t₁ t₂ t₃ value : Expr} {pos : Pos} {Q : Fl → Rho → Rho → Own → Prop} (h : Ev Γ A env ρ κ O value fun d O₁ => ∀ O₁', O₁' = O₁ → As Γ A env ρ κ O₁ (assign t₁ env) d fun ρ₂ κ₂ O₂ => As Γ A env ρ₂ κ₂ O₂ (assign t₂ env) d fun ρ₃ κ₃ O₃ => As Γ A env ρ₃ κ₃ O₃ (assign t₃ env) d fun ρ' κ' O' => Q .next ρ' κ' O')
    (he : (assignEach [t₁, t₂, t₃] env).map (·.2) = [assign t₁ env, assign t₂ env, assign t₃ env]) (hw : swappedStores [t₁, t₂, t₃] value env = pure none) : S1 Γ A env ρ κ O (.Assign [t₁, t₂, t₃] value pos) Q := fun g s ok F => by
  refine wpAny_Assign_three (T.use (h g s ok F) (fun v s₁ g₁ O₁ d G₁ i h₁ => ?_)) he hw
  refine As.use (h₁ _ rfl g₁ s₁ v G₁.ok (F.go G₁) i) (fun _ s₂ g₂ ρ₂ κ₂ O₂ G₂ h₂ => ?_)
  refine As.use (h₂ g₂ s₂ v G₂.ok G₂.fr (i.up G₂.to.up)) (fun _ s₃ g₃ ρ₃ κ₃ O₃ G₃ h₃ => ?_)
  exact As.use (h₃ g₃ s₃ v G₃.ok G₃.fr (i.up (G₂.trans G₃).to.up)) (fun _ s₄ g₄ ρ₄ κ₄ O₄ G₄ q => ⟨g₄, ρ₄, κ₄, O₄, .next, (((Gs.ofGo F G₁).trans G₂).trans G₃).trans G₄, .next, q⟩)

theorem Room.make {C : Addr} {rest : List Value} {kw : List (Str × Value)} {n : Nat} (r : Room A (n + 1)) : Room (A.under (.builtin "type.__call__" ⟨.ref C :: rest, kw⟩)) n :=
  ⟨r.h, by have := r.d; show A.depth + 1 + n < 990; exact om_154 this, by
    have := r.u
    have e : (Code.builtin "type.__call__" ⟨.ref C :: rest, kw⟩).cUnits ≤ 8 := Nat.le_of_ble_eq_true (by kernel_rfl)
    show A.units + (Code.builtin "type.__call__" ⟨.ref C :: rest, kw⟩).cUnits + 8 * n + 300 < cLine
    exact om_155 this e⟩
theorem Ca.make {C fI : Addr} {n : Nat} {ds : List D} {Q : D → Own → Prop} (r : Room A (n + 1)) (hm : makesIn Γ.K C = true) (hi : findIn Γ.K (.ref C) "__init__" = some (some (.ref fI))) (hf : typeIn Γ.K (.ref fI) = some (.type "function"))
    (h : ∀ x dx, Cal Γ n (.ref fI) (.v (.ref x) :: ds) [] ((x, .obj C dx) :: (dx, .dict []) :: O) fun d O' => d = .none ∧ ∃ fs O₂, OS ((x, .obj C dx) :: (dx, .dict fs) :: O₂) O' ∧ Q (.inst C fs) O₂) : Ca Γ A O (.ref C) ds [] Q := fun g s vs ks ok iv ik => by
  obtain rfl := ik.nil'
  refine wpAny_call ?_
  obtain ⟨hh, gs, dr, t, os⟩ := s
  refine make_core (makes_of ok.kin hm) (looks_findIn ok.kin hi) (fun self => bind_fn ok.kin self hf) (.inl rfl) ?_
  have G₁ : Go Γ g ⟨hh, gs, dr, t, os⟩ O g ⟨hh.push emptyDict, gs, dr, t, os⟩ ((hh.objs.size, .dict []) :: O) := Go.allocO (s := ⟨hh, gs, dr, t, os⟩) (o := emptyDict) (c := .dict []) ok rfl ⟨#[], 0, Heap.get?_push_size _ rfl, .nil⟩
  have G₂ := Go.allocO (s := ⟨hh.push emptyDict, gs, dr, t, os⟩) (o := instObj C hh.objs.size) (c := .obj C hh.objs.size) G₁.ok rfl (Heap.get?_push_size _ rfl)
  have G := G₁.trans G₂
  have hsz : (hh.push emptyDict).objs.size = hh.objs.size + 1 := Heap.size_push ..
  simp only [hsz] at G
  refine codeAny_mono (h (hh.objs.size + 1) hh.objs.size _ g _ (.ref (hh.objs.size + 1) :: vs) [] (Room.make r) G.ok (.cons (.v _) iv) .nil) fun res s' hr => ?_
  rcases res with e | (_ | _ | _ | v)
  · exact hr.elim
  · exact hr.elim
  · exact hr.elim
  · exact hr.elim
  · obtain ⟨g', O', d, G', i, rfl, fs, O₂, hsub, q⟩ := hr
    cases i
    refine ⟨rfl, ?_⟩
    show ∃ g'' O'' d, _
    have okS : Okb Γ g' s' ((hh.objs.size + 1, .obj C hh.objs.size) :: (hh.objs.size, .dict fs) :: O₂) := hsub.okb G'.ok
    obtain ⟨hx, nx⟩ := okS.own _ (.head _)
    obtain ⟨⟨es, k, hd, rd⟩, nd⟩ := okS.own _ (.tail _ (.head _))
    obtain ⟨g₁, a1, a2, a3, a4⟩ := grow okS.keep hx
    obtain ⟨g₂, b1, b2, b3, b4⟩ := grow a3 hd
    have ndp := okS.nd
    rw [List.map_cons, List.map_cons, List.nodup_cons, List.nodup_cons] at ndp
    have off1 : ∀ p ∈ O₂, p.1 ≠ hh.objs.size + 1 := fun p hp e => ndp.1 (.tail _ (e ▸ List.mem_map_of_mem (f := (·.1)) hp))
    have off2 : ∀ p ∈ O₂, p.1 ≠ hh.objs.size := fun p hp e => ndp.2.1 (e ▸ List.mem_map_of_mem (f := (·.1)) hp)
    have subO : ∀ b, dom O₂ b → dom O' b := fun b hb => hsub.dom b (.tail _ (.tail _ hb))
    have Gall := G.trans G'
    refine ⟨g₂, O₂, .inst C fs, ⟨⟨b3, G'.ok.gam.up (a1.trans b1), fun p hp => ?_, ndp.2.2, G'.ok.gens, G'.ok.os⟩, ⟨Gall.to.pres, Gall.to.up.trans (a1.trans b1), fun b o e hn => ?_⟩, fun b hb => Gall.wi b (subO b hb)⟩, .inst (b1 _ _ a2) b2 (rd.up (a1.trans b1)), q⟩
    · obtain ⟨y, z⟩ := okS.own p (.tail _ (.tail _ hp))
      exact ⟨y.up (a1.trans b1), by rw [b4 _ (off2 p hp), a4 _ (off1 p hp)]; exact z⟩
    · by_cases e1 : b = hh.objs.size
      · left
        rw [e1]
        cases q : hh.get? hh.objs.size with
        | none => rfl
        | some o => exact absurd (Heap.lt_size q) (Nat.lt_irrefl _)
      · by_cases e2 : b = hh.objs.size + 1
        · left
          rw [e2]
          cases q : hh.get? (hh.objs.size + 1) with
          | none => rfl
          | some o => exact absurd (Heap.lt_size q) (Nat.not_lt.mpr (Nat.le_succ _))
        · rw [b4 b e1, a4 b e2] at e
          exact Gall.to.new b o e hn
end
end Lw
end
section
namespace Lw
open PySem PySem.Calls PyProof.Rows PySem.W
theorem tooLong_no {n : Nat} (h : n ≤ sizeLine) : Builtin.Str.tooLong n = false := by unfold Builtin.Str.tooLong; exact decide_eq_false (Nat.not_lt.mpr h)
noncomputable def lowered (x : Str) : Str := ⟨placed x fun i _ => Unicode.lowerAt x.cps i⟩
noncomputable def uppered (x : Str) : Str := ⟨placed x fun _ c => Unicode.upperOf c⟩
section
variable {Γ : Gam} {A : Around} {env : Env} {ρ κ : Rho} {O : Own}
theorem Op2.itemL {value slice : Expr} {x : D} {ds : List D} {k : Int} {d : D} {Q : D → Own → Prop} (l : LstOf O x ds) (h0 : 0 ≤ k) (h1 : k < 2 ^ 63) (hd : ds[k.toNat]? = some d) (q : Q d O)
    (hs : ∀ a u, subscripted slice false (.ref a) (.int k u) = operate [.ref a, .int k u] (getItem (.ref a) (.int k u))) : Op2 Γ A O (subscriptTail value slice) x (.int k) Q := fun g s v w ok i j => by
  obtain ⟨a, vs, n, rfl, e, r⟩ := l.at ok i
  cases j
  obtain ⟨y, hy, iy⟩ := r.get hd
  exact item_litK (vs := vs.toList) (by rw [Array.toArray_toList]; exact isList_of e) h0 h1 hy (T.val0 ok iy q) (hs _ _)
theorem Op2.itemT {value slice : Expr} {ds : List D} {k : Int} {j : Nat} {d : D} {Q : D → Own → Prop} (hlo : -(2 ^ 63) ≤ k) (hhi : k < 2 ^ 63) (hj : seqIndex? k ds.length = some j) (hd : ds[j]? = some d) (q : Q d O)
    (hs : ∀ a u, subscripted slice false (.ref a) (.int k u) = operate [.ref a, .int k u] (getItem (.ref a) (.int k u))) : Op2 Γ A O (subscriptTail value slice) (.tup ds) (.int k) Q := fun g s v w ok i j' => by
  cases i with
  | tup e r =>
    cases j'
    obtain ⟨y, hy, iy⟩ := r.get hd
    refine item_tupleT (l := List.map id _) (j := j) ?_ hlo hhi (by rw [List.map_id, r.length]; exact hj) (by rw [List.map_id]; exact hy) (T.val0 ok iy q) (hs _ _)
    rw [List.map_id, Array.toArray_toList]
    exact ⟨_, ok.keep _ _ e, rfl, _, rfl⟩
theorem GetM.str {name : Str} {id : String} {x : Str} {K : Value → List D → Own → Prop} (slot : Slot "str" name id) (hty : typeOf (.builtin id) = pure (.type "method_descriptor")) (q : K (.builtin id) [.str x] O) : GetM Γ A O name (.str x) K := fun pl g s v ok i => by
  cases i
  exact getMethod_builtin (typeIs_str s x _) F.plainAttrs_str slot hty (fun a e => nomatch e) ⟨g, O, [.str x], .refl ok, .cons (.str _ _) .nil, q⟩
theorem GetM.list {name : Str} {id : String} {d : D} {ds : List D} {K : Value → List D → Own → Prop} (l : LstOf O d ds) (slot : Slot "list" name id) (hty : typeOf (.builtin id) = pure (.type "method_descriptor")) (q : K (.builtin id) [d] O) : GetM Γ A O name d K := fun pl g s v ok i => by
  obtain ⟨a, vs, n, rfl, e, r⟩ := l.at ok i
  exact getMethod_builtin (T := "list") ⟨_, e, rfl⟩ F.plainAttrs_list slot hty (fun a' h => by cases h; exact ⟨_, e, rfl⟩) ⟨g, O, [d], .refl ok, .cons i .nil, q⟩
theorem Ca.lower {x : Str} {Q : D → Own → Prop} (h : (lowered x).length ≤ sizeLine) (q : Q (.str (lowered x)) O) : Ca Γ A O (.builtin "str.lower") [.str x] [] Q := Ca.plain1 fun g s v ok i => by
  cases i
  exact call_gives F.slot_str_lower (typeIs_str s x _) F.entry_str_lower (F.args_str_lower_1 _) (gives_str_lower x _ (tooLong_no h)) ⟨h, T.val ok _ (.str _ _) q⟩
theorem Ca.upper {x : Str} {Q : D → Own → Prop} (h : (uppered x).length ≤ sizeLine) (q : Q (.str (uppered x)) O) : Ca Γ A O (.builtin "str.upper") [.str x] [] Q := Ca.plain1 fun g s v ok i => by
  cases i
  exact call_gives F.slot_str_upper (typeIs_str s x _) F.entry_str_upper (F.args_str_upper_1 _) (gives_str_upper x _ (tooLong_no h)) ⟨h, T.val ok _ (.str _ _) q⟩
theorem Ca.chr {i : Int} {Q : D → Own → Prop} (h : (decide (i < 0) || decide (i > 0x10FFFF)) = false) (q : Q (.str ⟨#[i.toNat]⟩) O) : Ca Γ A O (.builtin "chr") [.int i] [] Q := Ca.plain1 fun g s v ok j => by
  cases j; exact P.chr_of_int h (T.val ok _ (.str _ _) q)
theorem Ca.range1 {n : Int} {Q : D → Own → Prop} (q : Q (.rng 0 n 1) O) : Ca Γ A O (.type "range") [.int n] [] Q := Ca.plain1 fun g s v ok i => by
  cases i
  refine call_range_1 ?_
  obtain ⟨g', G, e⟩ := Go.alloc (o := { cls := .type "range", data := .fields #[.int 0 s.toks, .int n _, .int 1 (s.toks + 1)] }) ok rfl
  exact ⟨g', O, _, G.trans (Go.toks G.ok _), .rng e, q⟩
theorem Ca.range2 {a b : Int} {Q : D → Own → Prop} (q : Q (.rng a b 1) O) : Ca Γ A O (.type "range") [.int a, .int b] [] Q := Ca.plain2 fun g s v w ok i j => by
  cases i; cases j
  refine call_range_2 ?_
  obtain ⟨g', G, e⟩ := Go.alloc (o := { cls := .type "range", data := .fields #[.int a _, .int b _, .int 1 s.toks] }) ok rfl
  exact ⟨g', O, _, G.trans (Go.toks G.ok _), .rng e, q⟩
theorem Ca.lenT {ds : List D} {Q : D → Own → Prop} (hf : ds.length < 2 ^ 62) (q : Q (.int ds.length) O) : Ca Γ A O (.builtin "len") [.tup ds] [] Q := Ca.plain1 fun g s v ok iv => by
  cases iv with
  | tup e r =>
    rename_i a vs n
    have hz : vs.size = ds.length := by rw [← r.length, Array.length_toList]
    exact len_tuple ⟨_, ok.keep _ _ e, rfl, _, rfl⟩ (by rw [hz]; exact om_157 hf hz) (by rw [hz]; exact T.val ok _ (.int _ _) q)
noncomputable def isNone : D → Bool
  | .none => true
  | .v .none => true
  | _ => false
theorem isNone_of {g : Heap} {v : Value} {d : D} (i : In g v d) : (v == .none) = isNone d := by
  cases i with
  | v => cases v <;> rfl
  | _ => rfl
theorem Op2.isN {a : D} {Q : D → Own → Prop} (q : Q (.bool (isNone a)) O) : Op2 Γ A O (compareOp .Is) a .none Q := fun g s v w ok i j => by
  cases j
  exact PySem.is_none (by rw [isNone_of i]; exact T.val0 ok (.bool _) q)
theorem Op2.isNotN {a : D} {Q : D → Own → Prop} (q : Q (.bool (!isNone a)) O) : Op2 Γ A O (compareOp .IsNot) a .none Q := fun g s v w ok i j => by
  cases j
  refine wpAny_mono (PySem.isNot_none (by rw [isNone_of i]; exact T.val0 (Q := fun d O => Q d O) ok (.bool _) q)) (fun _ _ x => x) fun _ _ e => e
noncomputable abbrev KExA (ρ κ : Rho) (Q : Fl → Rho → Rho → Own → Prop) : D → Own → Prop := fun _ O => Q .next ρ κ O
theorem S1.exprAny {e : Expr} {pos : Pos} {Q : Fl → Rho → Rho → Own → Prop} (h : Ev Γ A env ρ κ O e (KExA ρ κ Q)) (hi : interactive env = false) (hs : swapsWith e none pos.line env = pure false) : S1 Γ A env ρ κ O (.Expr e pos) Q := fun g s ok F =>
  wpAny_Expr_any (T.use (h g s ok F) (fun v s₁ g₁ O₁ d G₁ i q => ⟨g₁, ρ, κ, O₁, .next, .ofGo F G₁, .next, q⟩)) hi hs
end
end Lw
end
section
namespace Lw
open PySem PySem.Calls PyProof.Rows PySem.W
theorem isPart_of (p : Option (Int × Tok)) : IsPart (partValue p) (p.map (·.1)) := by
  rcases p with _ | ⟨i, t⟩
  · exact .none
  · exact .int i t
noncomputable def pickD (ds : List D) (lo hi st : Option Int) : List D :=
  (sliceRange (sliceBounds lo hi st ds.length).1 (sliceBounds lo hi st ds.length).2.1 (sliceBounds lo hi st ds.length).2.2).filterMap (ds[·]?)
theorem InL.pick {g : Heap} {vs : List Value} {ds : List D} (r : InL g vs ds) : ∀ (l : List Nat), InL g (l.filterMap (vs[·]?)) (l.filterMap (ds[·]?))
  | [] => .nil
  | i :: l => by
    rw [List.filterMap_cons, List.filterMap_cons]
    cases q : ds[i]? with
    | none =>
      have : vs[i]? = none := List.getElem?_eq_none (by rw [r.length]; exact List.getElem?_eq_none_iff.mp q)
      rw [this]
      exact InL.pick r l
    | some d =>
      obtain ⟨v, hv, iv⟩ := r.get q
      rw [hv]
      exact .cons iv (InL.pick r l)
section
variable {Γ : Gam} {A : Around} {env : Env} {ρ κ : Rho} {O : Own}
noncomputable def EvP (Γ : Gam) (A : Around) (env : Env) (ρ κ : Rho) (O : Own) (e : Option Expr) (Q : Option Int → Own → Prop) : Prop :=
  ∀ g s, Okb Γ g s O → Frm env g s.heap O ρ κ → T Γ A (evalPart e env) (fun _ v d => ∃ p : Option (Int × Tok), v = partValue p ∧ d = p.map (·.1)) g s O Q
theorem EvP.none {Q : Option Int → Own → Prop} (q : Q .none O) : EvP Γ A env ρ κ O .none Q := fun g s ok F => wpAny_pure ⟨g, O, _, .refl ok, ⟨.none, rfl, rfl⟩, q⟩
noncomputable abbrev KSp2 (Q : Option Int → Own → Prop) (d : D) (O : Own) : Int → Prop := fun i => d = .int i ∧ Q (.some i) O
noncomputable abbrev KSp (Q : Option Int → Own → Prop) : D → Own → Prop := fun d O => Exists (KSp2 Q d O)
noncomputable abbrev KSl3 (a b : Option Int) (Q : D → Own → Prop) : Option Int → Own → Prop := fun c O => Q (.slc a b c) O
noncomputable abbrev KSl2 (Γ : Gam) (A : Around) (env : Env) (ρ κ : Rho) (st : Option Expr) (a : Option Int) (Q : D → Own → Prop) : Option Int → Own → Prop := fun b O => EvP Γ A env ρ κ O st (KSl3 a b Q)
noncomputable abbrev KSl (Γ : Gam) (A : Around) (env : Env) (ρ κ : Rho) (u st : Option Expr) (Q : D → Own → Prop) : Option Int → Own → Prop := fun a O => EvP Γ A env ρ κ O u (KSl2 Γ A env ρ κ st a Q)
theorem EvP.some {e : Expr} {Q : Option Int → Own → Prop} (h : Ev Γ A env ρ κ O e (KSp Q)) : EvP Γ A env ρ κ O (.some e) Q := fun g s ok F =>
  evalPart_some_step (T.use (h g s ok F) (fun v s₁ g₁ O₁ d G₁ iv hq9 => by
    obtain ⟨i, hd, q⟩ := hq9
    subst hd
    cases iv
    exact ⟨g₁, O₁, _, G₁, ⟨.some (i, _), rfl, rfl⟩, q⟩))
theorem Ev.slice {lower upper step : Option Expr} {p : Pos} {Q : D → Own → Prop} (h : EvP Γ A env ρ κ O lower (KSl Γ A env ρ κ upper step Q)) : Ev Γ A env ρ κ O (.Slice lower upper step p) Q := fun g s ok F => by
  refine wpAny_Slice (T.use (h g s ok F) (fun vl s₁ g₁ O₁ a G₁ hz4 h₁ => ?_))
  obtain ⟨pl, e1, e2⟩ := hz4
  subst e1 e2
  refine T.use (h₁ g₁ s₁ G₁.ok (F.go G₁)) (fun vu s₂ g₂ O₂ b G₂ hz4 h₂ => ?_)
  obtain ⟨pu, e1, e2⟩ := hz4
  subst e1 e2
  refine T.use (h₂ g₂ s₂ G₂.ok (F.go (G₁.trans G₂))) (fun vs s₃ g₃ O₃ c G₃ hz4 q => ?_)
  obtain ⟨ps, e1, e2⟩ := hz4
  subst e1 e2
  obtain ⟨g', G, e⟩ := Go.alloc (o := { cls := .type "slice", data := .fields #[partValue pl, partValue pu, partValue ps] }) G₃.ok rfl
  exact ⟨g', O₃, _, ((G₁.trans G₂).trans G₃).trans G, .slc pl pu ps e, q⟩
theorem Op2.sliceL {value slice : Expr} {x : D} {ds : List D} {lo hi st : Option Int} {Q : D → Own → Prop} (l : LstOf O x ds) (h0 : st ≠ some 0) (hz : ds.length ≤ sizeLine) (q : Q (.lst (pickD ds lo hi st)) O)
    (hs : ∀ a b, ∃ ops, subscripted slice false (.ref a) (.ref b) = operate ops (getItem (.ref a) (.ref b))) : Op2 Γ A O (subscriptTail value slice) x (.slc lo hi st) Q := fun g s v w ok i j => by
  obtain ⟨a, vs, n, rfl, e, r⟩ := l.at ok i
  cases j with
  | slc pl pu ps hsl =>
    rename_i b
    obtain ⟨ops, hs⟩ := hs a b
    have hsz : vs.size = ds.length := by rw [← r.length, Array.length_toList]
    refine tail_any (T := "list") ⟨_, e, rfl⟩ slot_list_getitem.lookup (wpAny_getItem_list_slice (isList_of e) ⟨_, ok.keep _ _ hsl, rfl, rfl⟩ (isPart_of pl) (isPart_of pu) (isPart_of ps) h0 ?_ (by rw [hsz]; exact hz)) hs
    obtain ⟨g', G, e'⟩ := Go.alloc (o := lstObj (slicePick vs (pl.map (·.1)) (pu.map (·.1)) (ps.map (·.1))) 0) ok rfl
    refine ⟨g', O, _, G, .lst e' ?_, q⟩
    unfold slicePick pickD
    rw [List.toList_toArray, hsz]
    have := (r.up G.to.up).pick (sliceRange (sliceBounds (pl.map (·.1)) (pu.map (·.1)) (ps.map (·.1)) ds.length).1 (sliceBounds (pl.map (·.1)) (pu.map (·.1)) (ps.map (·.1)) ds.length).2.1 (sliceBounds (pl.map (·.1)) (pu.map (·.1)) (ps.map (·.1)) ds.length).2.2)
    simpa using this
noncomputable def sliceS (x : Str) (lo hi st : Option Int) : Str :=
  if (st.getD 1 == 1 && (Builtin.Str.strSliceIndices lo hi (st.getD 1) x.length).length == x.length) = true then x else ⟨((Builtin.Str.strSliceIndices lo hi (st.getD 1) x.length).filterMap (x.cps[·]?)).toArray⟩
end
end Lw
end
section
namespace Lw
open PySem PySem.Calls PyProof.Rows PySem.W

mutual
noncomputable def toPy : D → Option PyData
  | .none => some .none
  | .bool b => some (.bool b)
  | .int i => some (.int i)
  | .str s => some (.str s)
  | .tup ds => (toPyL ds).map .tuple
  | .lst ds => (toPyL ds).map .list
  | _ => none
noncomputable def toPyL : List D → Option (List PyData)
  | [] => some []
  | d :: r => (toPy d).bind fun p => (toPyL r).map (p :: ·)
end
mutual
theorem reads_of {g : Heap} : ∀ {v : Value} {d : D} {p : PyData}, In g v d → toPy d = some p → ∃ as, Reads g v p as
  | _, _, p, .v x, e => by simp [toPy] at e
  | _, _, p, .none, e => by simp only [toPy] at e; cases e; exact ⟨_, .none⟩
  | _, _, p, .bool b, e => by simp only [toPy] at e; cases e; exact ⟨_, .bool b⟩
  | _, _, p, .int i t, e => by simp only [toPy] at e; cases e; exact ⟨_, .int i t⟩
  | _, _, p, .flt x t, e => by simp [toPy] at e
  | _, _, p, .str x t, e => by simp only [toPy] at e; cases e; exact ⟨_, .str x t⟩
  | _, _, p, .tup h r, e => by
    simp only [toPy, Option.map_eq_some_iff] at e
    obtain ⟨ps, e1, rfl⟩ := e
    obtain ⟨as, q⟩ := readsAll_of r e1
    exact ⟨_, .tuple h rfl rfl q⟩
  | _, _, p, .lst h r, e => by
    simp only [toPy, Option.map_eq_some_iff] at e
    obtain ⟨ps, e1, rfl⟩ := e
    obtain ⟨as, q⟩ := readsAll_of r e1
    exact ⟨_, .list h rfl rfl q⟩
  | _, _, p, .inst _ _ _, e => by simp [toPy] at e
  | _, _, p, .rng _, e => by simp [toPy] at e
  | _, _, p, .slc _ _ _ _, e => by simp [toPy] at e
theorem readsAll_of {g : Heap} : ∀ {vs : List Value} {ds : List D} {ps : List PyData}, InL g vs ds → toPyL ds = some ps → ∃ as, ReadsAll g vs ps as
  | _, _, ps, .nil, e => by simp only [toPyL] at e; cases e; exact ⟨_, .nil⟩
  | _, _, ps, .cons a r, e => by
    simp only [toPyL, Option.bind_eq_some_iff, Option.map_eq_some_iff] at e
    obtain ⟨p, e1, qs, e2, rfl⟩ := e
    obtain ⟨as, q1⟩ := reads_of a e1
    obtain ⟨bs, q2⟩ := readsAll_of r e2
    exact ⟨_, .cons q1 q2⟩
end

section
variable {Γ : Gam} {A : Around} {env : Env} {ρ κ : Rho} {O : Own}
theorem Op2.eqD {a b : D} {da db : PyData} {Q : D → Own → Prop} (ha : toPy a = some da) (hb : toPy b = some db) (ca : SeqAt.shaped da = true) (cb : SeqAt.shaped db = true) (hu : A.units + 64 < cLine) (q : Q (.bool (PyData.eqv da db)) O) : Op2 Γ A O (compareOp .Eq) a b Q := fun g s v w ok i j => by
  obtain ⟨as, ra⟩ := reads_of (i.up ok.keep) ha
  obtain ⟨bs, rb⟩ := reads_of (j.up ok.keep) hb
  exact SeqAt.compareEq_shaped ra rb ca cb hu (T.val0 ok (.bool _) q)
theorem Op2.neD {a b : D} {da db : PyData} {Q : D → Own → Prop} (ha : toPy a = some da) (hb : toPy b = some db) (ca : SeqAt.shaped da = true) (cb : SeqAt.shaped db = true) (hu : A.units + 64 < cLine) (q : Q (.bool (!PyData.eqv da db)) O) : Op2 Γ A O (compareOp .NotEq) a b Q := fun g s v w ok i j => by
  obtain ⟨as, ra⟩ := reads_of (i.up ok.keep) ha
  obtain ⟨bs, rb⟩ := reads_of (j.up ok.keep) hb
  exact SeqAt.compareNe_shaped ra rb ca cb hu (T.val0 ok (.bool _) q)

theorem intsAre_of {g : Heap} : ∀ {vs : List Value} {ns : List Int}, InL g vs (ns.map .int) → IntsAre vs ns
  | _, [], h => by cases h; exact .nil
  | _, n :: ns, h => by
    cases h with
    | cons a r => cases a with | int i t => exact .cons n t (intsAre_of r)
theorem Ca.sum {x : D} {ns : List Int} {Q : D → Own → Prop} (hh : A.handled = none) (l : LstOf O x (ns.map .int)) (q : Q (.int ns.sum) O) : Ca Γ A O (.builtin "sum") [x] [] Q := Ca.plain1 fun g s v ok i => by
  obtain ⟨a, vs, n, rfl, e, r⟩ := l.at ok i
  have hi := intsAre_of r
  obtain ⟨xs, hx⟩ := (hi.allInts (l := vs.toList)).items
  have hx' : vs = intItems xs := by rw [← hx, Array.toArray_toList]
  refine sum_intListG hh (xs := xs) (by rw [← hx']; exact isList_of e) fun h' tk t' k => ?_
  have hs : preSum (numAt xs) xs.size = ns.sum := by
    rw [preSum_eq, List.take_of_length_le (by simp), ← nums_intItems, ← hx', hi.numsOf]
  rw [hs]
  exact ⟨g, O, _, Go.sub ok k tk, .int _ _, q⟩
noncomputable def fMax (a b c : UInt64) : UInt64 := if Float64.cmp b a == some .gt then (if Float64.cmp c b == some .gt then c else b) else (if Float64.cmp c a == some .gt then c else a)
noncomputable def fMin (a b c : UInt64) : UInt64 := if Float64.cmp b a == some .lt then (if Float64.cmp c b == some .lt then c else b) else (if Float64.cmp c a == some .lt then c else a)
theorem best3 (f : UInt64 → UInt64 → Bool) (a b c : UInt64) (va vb vc : Value) (v : Value) (h : (#[va, vb, vc] : Array Value)[argBest (fun i j => f ([a, b, c].getD i 0) ([a, b, c].getD j 0)) 2]? = some v) : v = if f b a then (if f c b then vc else vb) else (if f c a then vc else va) := by
  by_cases h1 : f b a = true
  · by_cases h2 : f c b = true
    · simp [argBest, h1, h2] at h ⊢; exact h.symm
    · simp [argBest, h1, h2] at h ⊢; exact h.symm
  · by_cases h2 : f c a = true
    · simp [argBest, h1, h2] at h ⊢; exact h.symm
    · simp [argBest, h1, h2] at h ⊢; exact h.symm
theorem at3 {vs : Array Value} {a b c : UInt64} {t u x : Tok} (hv : vs = #[.float a t, .float b u, .float c x]) {i : Nat} {v : Value} (h : vs[i]? = some v) : ∃ k, v = .float ([a, b, c].getD i 0) k := by
  subst hv
  rcases i with _ | _ | _ | i
  · exact ⟨t, by simpa using h.symm⟩
  · exact ⟨u, by simpa using h.symm⟩
  · exact ⟨x, by simpa using h.symm⟩
  · simp at h
theorem Ca.max3 {a b c : UInt64} {Q : D → Own → Prop} (hh : A.handled = none) (q : Q (.flt (fMax a b c)) O) : Ca Γ A O (.builtin "max") [.flt a, .flt b, .flt c] [] Q := fun g s vs ks ok iv ik => by
  obtain rfl := ik.nil'
  obtain ⟨x, y, z, rfl, i, j, k⟩ := iv.three
  cases i; cases j; cases k
  rename_i t u x
  have hT : (s.heap.push { cls := .type "tuple", data := .seq #[.float a t, .float b u, .float c x] }).IsTuple s.heap.objs.size #[.float a t, .float b u, .float c x] := ⟨_, Heap.get?_push_size _ rfl, rfl, 0, rfl⟩
  refine call_max_three (wpAny_pyIter_tuple hT ?_)
  have hsz : (s.heap.push { cls := .type "tuple", data := .seq #[.float a t, .float b u, .float c x] }).objs.size = s.heap.objs.size + 1 := Heap.size_push ..
  refine ⟨_, [_, s.heap.objs.size], [_], _, _, _, (fun i j => Float64.cmp ([a, b, c].getD i 0) ([a, b, c].getD j 0) == some .gt), rfl, Walks.tuple (A := A.in1) hh _ s.heap.objs.size (by rw [hsz]; exact Nat.ne_of_lt (Nat.lt_succ_self _)) #[.float a t, .float b u, .float c x],
    ⟨⟨_, Heap.get?_push_size _ rfl, rfl, rfl⟩, hT.push _⟩, fun d hd => ?_, by simp, fun i j vi vj s Q E hi hj h => ?_, fun v h' tk hP hk => ?_⟩
  · show d < ((s.heap.push _).push _).objs.size
    rw [Heap.size_push, hsz]
    simp only [List.mem_cons, List.not_mem_nil, or_false] at hd
    rcases hd with rfl | rfl
    · rw [hsz]; exact Nat.lt_succ_self _
    · exact Nat.lt_succ_of_lt (Nat.lt_succ_self _)
  · obtain ⟨_, rfl⟩ := at3 rfl hi
    obtain ⟨_, rfl⟩ := at3 rfl hj
    exact AutoFloatOps.gt_0 h
  · have hold : Sub s.heap h' := fun d o e => by
      refine hk d o (fun hm => ?_) (Heap.get?_push_of_some _ (Heap.get?_push_of_some _ e))
      have := Heap.lt_size e
      simp only [List.mem_cons, List.not_mem_nil, or_false] at hm
      rw [hm, hsz] at this
      exact absurd this (Nat.not_lt.mpr (Nat.le_succ _))
    have hv := best3 (fun p q => Float64.cmp p q == some .gt) a b c (.float a t) (.float b u) (.float c x) v hP
    refine ⟨g, O, .flt (fMax a b c), ?_, ?_, q⟩
    · have G := Go.sub ok hold tk
      exact G
    · rw [hv]
      unfold fMax
      split <;> split <;> exact .flt _ _
theorem Ca.min3 {a b c : UInt64} {Q : D → Own → Prop} (hh : A.handled = none) (q : Q (.flt (fMin a b c)) O) : Ca Γ A O (.builtin "min") [.flt a, .flt b, .flt c] [] Q := fun g s vs ks ok iv ik => by
  obtain rfl := ik.nil'
  obtain ⟨x, y, z, rfl, i, j, k⟩ := iv.three
  cases i; cases j; cases k
  rename_i t u x
  have hT : (s.heap.push { cls := .type "tuple", data := .seq #[.float a t, .float b u, .float c x] }).IsTuple s.heap.objs.size #[.float a t, .float b u, .float c x] := ⟨_, Heap.get?_push_size _ rfl, rfl, 0, rfl⟩
  refine call_min_three (wpAny_pyIter_tuple hT ?_)
  have hsz : (s.heap.push { cls := .type "tuple", data := .seq #[.float a t, .float b u, .float c x] }).objs.size = s.heap.objs.size + 1 := Heap.size_push ..
  refine ⟨_, [_, s.heap.objs.size], [_], _, _, _, (fun i j => Float64.cmp ([a, b, c].getD i 0) ([a, b, c].getD j 0) == some .lt), rfl, Walks.tuple (A := A.in1) hh _ s.heap.objs.size (by rw [hsz]; exact Nat.ne_of_lt (Nat.lt_succ_self _)) #[.float a t, .float b u, .float c x],
    ⟨⟨_, Heap.get?_push_size _ rfl, rfl, rfl⟩, hT.push _⟩, fun d hd => ?_, by simp, fun i j vi vj s Q E hi hj h => ?_, fun v h' tk hP hk => ?_⟩
  · show d < ((s.heap.push _).push _).objs.size
    rw [Heap.size_push, hsz]
    simp only [List.mem_cons, List.not_mem_nil, or_false] at hd
    rcases hd with rfl | rfl
    · rw [hsz]; exact Nat.lt_succ_self _
    · exact Nat.lt_succ_of_lt (Nat.lt_succ_self _)
  · obtain ⟨_, rfl⟩ := at3 rfl hi
    obtain ⟨_, rfl⟩ := at3 rfl hj
    exact AutoFloatOps.lt_0 h
  · have hold : Sub s.heap h' := fun d o e => by
      refine hk d o (fun hm => ?_) (Heap.get?_push_of_some _ (Heap.get?_push_of_some _ e))
      have := Heap.lt_size e
      simp only [List.mem_cons, List.not_mem_nil, or_false] at hm
      rw [hm, hsz] at this
      exact absurd this (Nat.not_lt.mpr (Nat.le_succ _))
    have hv := best3 (fun p q => Float64.cmp p q == some .lt) a b c (.float a t) (.float b u) (.float c x) v hP
    refine ⟨g, O, .flt (fMin a b c), ?_, ?_, q⟩
    · have G := Go.sub ok hold tk
      exact G
    · rw [hv]
      unfold fMin
      split <;> split <;> exact .flt _ _

end
end Lw
end
section
namespace Lw
open PySem PySem.Calls PyProof.Rows PySem.W
theorem slot_search : Slot "re.Pattern" "search" "re.Pattern.search" :=
  .of (owner := "re.Pattern") (n := "search") (by rw [typeLookup_type, builtinLookup_eq_fast]; kernel_rfl) (by decide +kernel) (by decide +kernel) (by decide +kernel)
    (by first | exact .inl (by decide +kernel) | exact .inr (by decide +kernel)) (by rw [isSubtype_type]; kernel_rfl)
theorem type_search : typeOf (.builtin "re.Pattern.search") = pure (.type "method_descriptor") := by show builtinType _ = _; rw [builtinType_eq_fast]; kernel_rfl
theorem entry_search : entryFor table "re.Pattern.search" = some Builtin.«re.Pattern.search» := entryFor_of_tree (by kernel_rfl)
theorem args_search (a b : Value) : argsOk "re.Pattern.search" ⟨[a, b], []⟩ := by unfold argsOk; kernel_rfl
theorem plain_pattern : PlainAttrs "re.Pattern" :=
  ⟨⟨"object.__getattribute__", by rw [typeLookup_type, builtinLookup_eq_fast]; kernel_rfl, by decide +kernel⟩, by rw [typeLookup_type, builtinLookup_eq_fast]; kernel_rfl⟩
noncomputable def sreFails : Nat → Sre.M → Bool
  | 0, _ => false
  | k + 1, m => match (m.runFor Builtin.Re.reTurnSteps).outcome with
    | some .failed => true
    | some _ => false
    | none => sreFails k (m.runFor Builtin.Re.reTurnSteps)
section
variable {M : Model} {A : Around} {E : Value → Shared → Prop} {s : Shared}
theorem drive {Q : Sre.M → Shared → Prop} : ∀ (k turns : Nat) (m : Sre.M), k ≤ turns → sreFails k m = true → (∀ m', m'.outcome = some .failed → Q m' s) → wpAny M A (Builtin.Re.reDrive turns m) Q E s
  | 0, _, m, _, h, _ => by cases h
  | k + 1, 0, m, hk, _, _ => by exact (om_162 hk).elim
  | k + 1, turns + 1, m, hk, h, hQ => by
    unfold sreFails at h
    unfold Builtin.Re.reDrive
    dsimp only
    cases q : (m.runFor Builtin.Re.reTurnSteps).outcome with
    | none =>
      rw [q] at h
      rw [if_neg (by simp)]
      exact wpAny_bind (wpAny_rule (drive k turns _ (by exact om_163 hk) h hQ))
    | some o =>
      rw [q] at h
      rw [if_pos (by simp)]
      cases o with
      | failed => exact wpAny_pure (hQ _ q)
      | _ => cases h
theorem search_fails {prog : Program} {w : World} {Q : Value → Shared → Prop} {p c : Addr} {x : Str} {t : Tok} {v0 v1 : Value} {t1 t2 : Tok} {vs : Array Value} {n k : Nat} {cls : Value} (hp : s.heap.get? p = some { cls := .type "re.Pattern", data := .fields #[v0, v1, .int 0 t1, .none, .none, .ref c, .int 0 t2] })
    (hc : s.heap.get? c = some { cls := cls, data := .seq vs n }) (hx : x.cps.size ≤ 1000000) (hk : k ≤ 1000000)
    (hf : sreFails k (Sre.forSearch ((vs.map Builtin.Re.reRawOf).map (·.toNat)) x.cps 0 0 x.cps.size false) = true) (h : Q .none s) : wpAny (model prog w) A (call (.builtin "re.Pattern.search") [.ref p, .str x t]) Q E s := by
  refine wpAny_call_entry slot_search ⟨_, hp, rfl⟩ entry_search ?_ (args_search _ _)
  show wpAny _ _ (Builtin.Re.reTarget "re.Pattern.search" "search" ⟨[.ref p, .str x t], []⟩ >>= _) _ _ s
  refine wpAny_bind ?_
  unfold Builtin.Re.reTarget
  refine wpAny_bind (wpAny_of_eq (a := [some (.str x t), none, none]) (by kernel_rfl) ?_)
  refine wpAny_bind (wpAny_pure (wpAny_bind (wpAny_pure (wpAny_bind (wpAny_fieldsOf hp rfl ?_)))))
  refine wpAny_bind (wpAny_of_eq (a := (x.cps, 0)) (by kernel_rfl) ?_)
  show wpAny _ _ (Builtin.Re.reNoCollectionInside (.str x t) 0 >>= _) _ _ s
  refine wpAny_bind (wpAny_pure ?_)
  show wpAny _ _ (Builtin.Re.reRawItems (.ref c) >>= _) _ _ s
  refine wpAny_bind ?_
  unfold Builtin.Re.reRawItems
  refine wpAny_bind (wpAny_seqItems hc rfl (wpAny_pure (wpAny_pure ?_)))
  dsimp only [Option.getD_some]
  unfold Builtin.Re.reAnswer Builtin.Re.reRunToEnd
  have e1 : min ((2 ^ 63 - 1 : Int)).toNat x.cps.size = x.cps.size := Nat.min_eq_right (by have : ((2 ^ 63 - 1 : Int)).toNat = 9223372036854775807 := by decide
                                                                                           exact om_164 hx this)
  have e0 : min ((0 : Int)).toNat x.cps.size = 0 := by simp
  refine wpAny_bind (wpAny_bind (drive k _ _ (Nat.le_trans hk (by decide)) ?_ fun m' hm => ?_))
  · show sreFails k (Sre.forSearch _ x.cps 0 (min ((0 : Int)).toNat x.cps.size) (min ((2 ^ 63 - 1 : Int)).toNat x.cps.size) false) = true
    rw [e0, e1]
    exact hf
  · refine wpAny_bind (wpAny_forIn_list _ (fun _ _ s' => s' = s) _ ?_ ?_ _ _ rfl)
    · rintro i rest b s' rfl
      split
      · exact wpAny_bind (wpAny_rule (wpAny_pure rfl))
      · exact wpAny_pure rfl
    · rintro b s' rfl
      rw [hm]
      exact wpAny_pure (wpAny_pure ⟨.none, rfl, h⟩)
end
section
variable {Γ : Gam} {A : Around} {env : Env} {ρ κ : Rho} {O : Own}
structure PatAt (Γ : Gam) (p : Addr) (code : Array Nat) : Prop where
  at_ : ∃ c v0 v1 t1 t2 cls vs n, Γ.K.lookup p = some { cls := .type "re.Pattern", data := .fields #[v0, v1, .int 0 t1, .none, .none, .ref c, .int 0 t2] } ∧ Γ.K.lookup c = some { cls := cls, data := .seq vs n } ∧ (vs.map Builtin.Re.reRawOf).map (·.toNat) = code
noncomputable def noHit (code : Array Nat) (x : Str) : Bool := decide (x.cps.size ≤ 1000000) && sreFails 3000 (Sre.forSearch code x.cps 0 0 x.cps.size false)
theorem GetM.pat {p : Addr} {code : Array Nat} {K : Value → List D → Own → Prop} (h : PatAt Γ p code) (q : K (.builtin "re.Pattern.search") [.v (.ref p)] O) : GetM Γ A O "search" (.v (.ref p)) K := fun pl g s v ok i => by
  cases i
  obtain ⟨c, v0, v1, t1, t2, cls, vs, n, h1, h2, h3⟩ := h.at_
  have hp := ok.kin _ _ h1
  exact getMethod_builtin (T := "re.Pattern") ⟨_, hp, rfl⟩ plain_pattern slot_search type_search (fun a e => by cases e; exact ⟨_, hp, rfl⟩) ⟨g, O, [.v (.ref p)], .refl ok, .cons (.v _) .nil, q⟩
theorem Ca.noHit {p : Addr} {code : Array Nat} {x : Str} {Q : D → Own → Prop} (h : PatAt Γ p code) (hn : Lw.noHit code x = true) (q : Q .none O) : Ca Γ A O (.builtin "re.Pattern.search") [.v (.ref p), .str x] [] Q := Ca.plain2 fun g s v w ok i j => by
  cases i; cases j
  obtain ⟨c, v0, v1, t1, t2, cls, vs, n, h1, h2, h3⟩ := h.at_
  unfold Lw.noHit at hn
  rw [Bool.and_eq_true] at hn
  exact search_fails (k := 3000) (ok.kin _ _ h1) (ok.kin _ _ h2) (of_decide_eq_true hn.1) (by decide) (by rw [h3]; exact hn.2) (T.val0 ok .none q)

noncomputable def tyName : D → Option String
  | .none => some "NoneType"
  | .bool _ => some "bool"
  | .int _ => some "int"
  | .flt _ => some "float"
  | .str _ => some "str"
  | .tup _ => some "tuple"
  | .lst _ => some "list"
  | .rng _ _ _ => some "range"
  | _ => none
theorem typeIs_of {g : Heap} {s : Shared} {v : Value} {d : D} {T : String} (ok : Okb Γ g s O) (i : In g v d) (h : tyName d = some T) : s.TypeIs v T := by
  cases i with
  | v => cases h
  | none => cases h; exact rfl
  | bool => cases h; exact rfl
  | int => cases h; exact rfl
  | flt => cases h; exact rfl
  | str => cases h; exact rfl
  | tup e r => cases h; exact ⟨_, ok.keep _ _ e, rfl⟩
  | lst e r => cases h; exact ⟨_, ok.keep _ _ e, rfl⟩
  | rng e => cases h; exact ⟨_, ok.keep _ _ e, rfl⟩
  | slc => cases h
  | inst => cases h
theorem Ca.type {d : D} {U : String} {Q : D → Own → Prop} (h : tyName d = some U) (hb : (Value.type U == Value.type "builtin_function_or_method") = false) (q : Q (.v (.type U)) O) : Ca Γ A O (.type "type") [d] [] Q := Ca.plain1 fun g s v ok i =>
  call_type_of (typeIs_of ok i h) hb (T.val0 ok (.v _) q)
theorem Ca.typeL {d : D} {ds : List D} {Q : D → Own → Prop} (l : LstOf O d ds) (q : Q (.v (.type "list")) O) : Ca Γ A O (.type "type") [d] [] Q := Ca.plain1 fun g s v ok i => by
  obtain ⟨a, vs, n, rfl, e, r⟩ := l.at ok i
  exact call_type_of (Tx := "list") ⟨_, e, rfl⟩ (by decide) (T.val0 ok (.v _) q)
theorem Op2.isV {a b : Value} {r : Bool} {Q : D → Own → Prop} (h : isSame a b = pure r) (q : Q (.bool r) O) : Op2 Γ A O (compareOp .Is) (.v a) (.v b) Q := fun g s v w ok i j => by
  cases i; cases j
  show wpAny _ A (isSame a b >>= fun c => pure (Value.bool c)) _ _ s
  rw [h]
  exact wpAny_bind (wpAny_pure (wpAny_pure (T.val0 ok (.bool _) q)))
theorem Op2.isNotV {a b : Value} {r : Bool} {Q : D → Own → Prop} (h : isSame a b = pure r) (q : Q (.bool (!r)) O) : Op2 Γ A O (compareOp .IsNot) (.v a) (.v b) Q := fun g s v w ok i j => by
  cases i; cases j
  show wpAny _ A (isSame a b >>= fun c => pure (Value.bool (!c))) _ _ s
  rw [h]
  exact wpAny_bind (wpAny_pure (wpAny_pure (T.val0 ok (.bool _) q)))
theorem Tr.int {i : Int} {Q : Bool → Own → Prop} (q : Q (i != 0) O) : Tr Γ A O (.int i) Q := fun g s v ok iv => by
  cases iv; exact P.truthy_int ⟨g, O, _, .refl ok, rfl, q⟩
noncomputable abbrev KMk4 (Γ : Gam) (A : Around) (f : Value) (ks : List Str) (ds : List D) (Q : D → Own → Prop) : List D → Own → Prop := fun kd O => kd.length = ks.length ∧ Ca Γ A O f ds (ks.zip kd) Q
noncomputable abbrev KMk3 (Γ : Gam) (A : Around) (env : Env) (ρ κ : Rho) (f : Value) (fd : List D) (kws : List Keyword) (ks : List Str) (Q : D → Own → Prop) : List D → Own → Prop := fun ds O => EvK Γ A env ρ κ O kws (KMk4 Γ A f ks (fd ++ ds) Q)
noncomputable abbrev KMk2 (Γ : Gam) (A : Around) (env : Env) (ρ κ : Rho) (args : List Expr) (kws : List Keyword) (ks : List Str) (Q : D → Own → Prop) : Value → List D → Own → Prop := fun f fd O => Kp Γ f ∧ Evs Γ A env ρ κ O args (KMk3 Γ A env ρ κ f fd kws ks Q)
noncomputable abbrev KMk (Γ : Gam) (A : Around) (env : Env) (ρ κ : Rho) (x : Str) (args : List Expr) (kws : List Keyword) (ks : List Str) (Q : D → Own → Prop) : D → Own → Prop := fun d O => GetM Γ A O x d (KMk2 Γ A env ρ κ args kws ks Q)
theorem Ev.methK {o : Expr} {name : Str} {apos pos : Pos} {a1 : Expr} {args : List Expr} {kws : List Keyword} {ks : List Str} {Q : D → Own → Prop}
    (h : Ev Γ A env ρ κ O o (KMk Γ A env ρ κ name (a1 :: args) kws ks Q))
    (hm : MethForm o name apos pos (a1 :: args) kws env) (hp : NoStar env (a1 :: args)) (hk1 : ∀ pos, (backToKw pos (keywordEach kws env)).any (·.1.isNone) = false) (hk2 : ∀ pos, (backToKw pos (keywordEach kws env)).all (·.1.isSome) = true) (hk3 : ∀ pos, (backToKw pos (keywordEach kws env)).filterMap (·.1) = ks)
    (hf : ∀ pos, ∃ x rest, backTo pos (starEach (a1 :: args) env) = (false, x) :: rest) : Ev Γ A env ρ κ O (.Call (.Attribute o name apos) (a1 :: args) kws pos) Q := fun g s ok F => by
  obtain ⟨pl, he⟩ := hm
  unfold T
  rw [he]
  refine wpAny_bind (T.use (h g s ok F) (fun v s₁ g₁ O₁ d G₁ i h₁ => wpAny_bind (wpAny_standAt (wpAny_bind (wpAny_holding (M.use (h₁ pl g₁ s₁ v G₁.ok i) (fun fx s₂ g₂ O₂ fd G₂ ifd hq9 => ?_)))))))
  obtain ⟨hk, h₂⟩ := hq9
  have Gb := G₁.trans G₂
  refine callWith_of (P := Γ.K.In) (by rw [hp pos, hk1 pos]; rfl) hk ?_
  have h₃ := h₂ pos g₂ s₂ Gb.ok (F.go Gb)
  obtain ⟨x, rest, e⟩ := hf pos
  unfold T at h₃
  rw [e] at h₃ ⊢
  refine evalArgs_kw (hk2 pos) (T.use h₃ (fun vs s₃ g₃ O₃ ds G₃ is h₄ => ?_))
  refine T.use (h₄ pos g₃ s₃ G₃.ok (F.go (Gb.trans G₃))) (fun kvs s₄ g₄ O₄ kd G₄ ik hq9 => ?_)
  obtain ⟨hl, q⟩ := hq9
  refine ⟨G₄.ok.kin, ?_⟩
  have hz1 : (ks.zip kd).map (·.1) = ks := by rw [List.map_fst_zip]; exact om_165 hl
  have hz2 : (ks.zip kd).map (·.2) = kd := by rw [List.map_snd_zip]; exact om_166 hl
  have := q g₄ s₄ (fx.2 ++ vs) kvs G₄.ok ((ifd.up (G₃.trans G₄).to.up).append (is.up G₄.to.up)) (by rw [hz2]; exact ik)
  rw [hz1] at this
  show wpAny _ _ (PySem.call fx.1 (fx.2 ++ vs) (((backToKw pos (keywordEach kws env)).filterMap (·.1)).zip kvs)) _ _ _
  rw [hk3 pos]
  exact T.after (Gb.trans (G₃.trans G₄)) this

theorem tup_inv {g : Heap} {v : Value} {ds : List D} (h : In g v (.tup ds)) : ∃ a vs n, v = .ref a ∧ g.get? a = some (tupObj vs n) ∧ InL g vs.toList ds := by
  cases h with | tup e r => exact ⟨_, _, _, rfl, e, r⟩
theorem S1.swap {targets : List Expr} {value : Expr} {pos : Pos} {names : List Str} {ts : List (Value → Sem Unit)} {Q : Fl → Rho → Rho → Own → Prop} (hh : A.handled = none)
    (h : Ev Γ A env ρ κ O value fun d O₁ => ∃ ds, d = .tup ds ∧ ds.length = names.length ∧ Asl Γ A env ρ κ O₁ ts ds.reverse fun ρ' κ' O' => Q .next ρ' κ' O')
    (ht : names.reverse.map (fun n => bindName env n) = ts) (hs : swapsWithSole targets value pos.line env = pure false) (hw : swappedStores targets value env = pure (some names)) : S1 Γ A env ρ κ O (.Assign targets value pos) Q := fun g s ok F => by
  subst ht
  show wpAny _ _ (exec (.Assign targets value pos) env) _ _ s
  rw [PySem.exec_Assign_arm]
  refine wpAny_bind (wpAny_standAt ?_)
  rw [hs]
  refine wpAny_bind (wpAny_pure ?_)
  rw [if_neg (by decide)]
  refine wpAny_bind (T.use (h g s ok F) (fun v s₁ g₁ O₁ d G₁ i hq9 => ?_))
  obtain ⟨ds, e, hl, h₁⟩ := hq9
  subst e
  rw [hw]
  refine wpAny_bind (wpAny_pure ?_)
  obtain ⟨a, vs, n, rfl, e, r⟩ := tup_inv i
  · have hz : vs.size = names.length := by rw [← Array.length_toList, r.length, hl]
    unfold assignStores
    refine wpAny_bind (wpAny_rule (wpAny_bind ?_))
    rw [← hz]
    refine wpAny_unpackItems_tuple hh (isTuple_of (G₁.ok.keep _ _ e)) fun h' hs' => ?_
    have G := Go.sub G₁.ok (h' := h') (fun b o q => hs' b o (fun z => absurd (Heap.lt_size q) (by rw [z]; exact Nat.lt_irrefl _)) q) s₁.toks
    have Gt := G₁.trans G
    have rr : InL g₁ vs.toList.reverse ds.reverse := by
      have : ∀ {l : List Value} {l' : List D}, InL g₁ l l' → InL g₁ l.reverse l'.reverse := by
        intro l l' hh
        induction l generalizing l' with
        | nil => cases hh; exact .nil
        | cons x l ih => cases hh with | cons a b => rw [List.reverse_cons, List.reverse_cons]; exact (ih b).append (.cons a .nil)
      exact this r
    refine wpAny_bind (As.use (h₁ g₁ _ _ Gt.ok (F.go Gt) rr) (fun _ s₂ g₂ ρ₂ κ₂ O₂ G₂ q => ?_))
    exact wpAny_pure ⟨g₂, ρ₂, κ₂, O₂, .next, (Gs.ofGo F Gt).trans G₂, .next, q⟩
theorem As.bind {x : Str} {d : D} {Q : Rho → Rho → Own → Prop} (h : Exists (KPut ρ x d (KNq κ O Q))) : As Γ A env ρ κ O (fun v => bindName env x v) d Q := fun g s v ok F i => by
  obtain ⟨ρ', p, q⟩ := h
  exact wpAny_bindName (store_loc ok F i p fun s' G => ⟨g, ρ', κ, O, G, q⟩)
end
end Lw
end
section
namespace Lw
open PySem PySem.Calls PyProof.Rows PySem.W
section
variable {Γ : Gam} {A : Around} {env : Env} {ρ κ : Rho} {O : Own}
end
end Lw
end
section
namespace Lw
open PySem PySem.Calls PyProof.Rows PySem.W
section
open PySem.SeqAt AutoSeq1 MeetsSeq MeetsSeq2 MeetsSeq3 SeqRoads2
end
section
variable {Γ : Gam} {A : Around} {env : Env} {ρ κ : Rho} {O : Own}
end
end Lw
end
section
namespace Lw
open PySem PySem.Calls PyProof.Rows PySem.W
section
variable {Γ : Gam} {A : Around} {env : Env} {ρ κ : Rho} {O : Own}
noncomputable def BodyC2 (Γ : Gam) (A : Around) (cenv : Env) (ρc κc : Rho) (t1 t2 i2 : Expr) (f2 : List Expr) (elt : Expr) (d : D) (es : List D) (f : D → Option D) : Prop :=
  ∀ O, As Γ A cenv ρc κc O (assign t1 cenv) d fun ρ₂ κ₂ O₂ => O₂ = O ∧ κ₂ = κc ∧ Fgt ρ₂ ρc ∧ Ev Γ A cenv ρ₂ κc O i2 fun d2 O₃ => GetI Γ A O₃ d2 fun I2 O₄ => O₄ = (I2, .iter es) :: O ∧ ∀ e ∈ es, BodyC Γ A cenv ρ₂ κc t2 f2 elt e (f e)
theorem Cl.map2 {elt t1 i1 t2 i2 : Expr} {f2 : List Expr} {scope : Scope} {pos : Pos} {acc I : Addr} {ds : List D} {W : Own} {Q : Rho → Rho → Own → Prop} (es : D → List D) (f : D → D → Option D) (hh : A.handled = none) (hp : PairT t1 = true) (hp2 : PairT t2 = true) (hs : ∀ x, foldedSetIterable i2 env x = pure x)
    (body : ∀ d ∈ ds, BodyC2 Γ A env ρ κ t1 t2 i2 f2 elt d (es d) (f d)) (hlen : (ds.flatMap fun d => (es d).filterMap (f d)).length ≤ sizeLine) (q : Q ρ κ ((acc, .list (ds.flatMap fun d => (es d).filterMap (f d))) :: W)) :
    Cl Γ A env ρ κ ((acc, .list []) :: (I, .iter ds) :: W) (.compStart (.ListComp elt [⟨t1, i1, [], 0⟩, ⟨t2, i2, f2, 0⟩] scope pos) 0 (.ref I) (.ref acc) env) Q := by
  refine Cl.start ⟨_, .tail _ (.head _), .inl ⟨_, rfl⟩⟩ ⟨_, _, _, _, rfl, _, rfl, rfl⟩ ?_
  refine Cl.loop (n := ds.length) (fun n ρ' κ' O' => ∃ done rest, ds = done ++ rest ∧ n = rest.length ∧ ρ' = ρ ∧ κ' = κ ∧ O' = (acc, .list (done.flatMap fun d => (es d).filterMap (f d))) :: (I, .iter rest) :: W) (turn_two0 ..) ⟨_, _, _, _, rfl⟩ hp ⟨ρ, .refl, [], ds, rfl, rfl, rfl, rfl, rfl⟩ ?_
  rintro n ρ' κ' O' ⟨done, rest, hds, rfl, rfl, rfl, rfl⟩
  cases rest with
  | nil =>
    rw [List.append_nil] at hds; subst hds
    exact .stop hh (.tail _ (.head _)) (.there .here) q
  | cons d rest =>
    refine .item (.there .here) ((body d (by rw [hds]; simp) _).mono fun ρ₂ κ₂ O₂ hb => Ifs.nil ?_)
    obtain ⟨rfl, rfl, hf, hb⟩ := hb
    rw [if_pos rfl]
    refine Tl.inner hs (hb.mono fun d2 O₃ hb g s v ok i => (hb g s v ok i).mono fun I2 O₄ ⟨e, hb⟩ => ?_)
    subst e
    refine Cl.start ⟨_, .head _, .inl ⟨_, rfl⟩⟩ ⟨_, _, _, _, rfl, _, rfl, rfl⟩ ?_
    refine Cl.loop (n := (es d).length) (fun n ρ' κ' O' => ∃ done2 rest2, es d = done2 ++ rest2 ∧ n = rest2.length ∧ ρ' = ρ₂ ∧ κ' = κ₂ ∧ O' = (I2, .iter rest2) :: (acc, .list ((done.flatMap fun d => (es d).filterMap (f d)) ++ done2.filterMap (f d))) :: (I, .iter rest) :: W) (turn_two1 ..) ⟨_, _, _, _, rfl⟩ hp2 ⟨ρ₂, .refl, [], es d, rfl, rfl, rfl, rfl, by rw [List.filterMap_nil, List.append_nil]⟩ ?_
    rintro n ρ' κ' O' ⟨done2, rest2, hes, rfl, rfl, rfl, rfl⟩
    cases rest2 with
    | nil =>
      rw [List.append_nil] at hes; subst hes
      refine .stop hh (.head _) .here ⟨rest.length, _, _, Nat.lt_succ_self _, hf, OS.refl, done ++ [d], rest, by rw [hds]; simp, rfl, rfl, rfl, ?_⟩
      rw [List.flatMap_append]; simp
    | cons e rest2 =>
      refine .item .here ((hb e (by rw [hes]; simp) _).mono fun ρ₃ κ₃ O₃ hb => Ifs.mono hb fun b O₄ hb => ?_)
      cases b with
      | true =>
        unfold KBc2 at hb
        rw [if_pos rfl] at hb ⊢
        refine Tl.emit (hb.mono fun x O₅ ⟨⟨e1, e2⟩, e3, e4⟩ => ?_)
        subst e1 e3
        refine ⟨_, _, .there .here, ?_, rest2.length, _, _, Nat.lt_succ_self _, e4, OS.refl, done2 ++ [e], rest2, by rw [hes]; simp, rfl, rfl, rfl, ?_⟩
        · refine Nat.le_trans ?_ hlen
          rw [hds, List.flatMap_append, List.flatMap_cons, hes, List.filterMap_append]
          simp only [List.length_append]
          exact om_167
        · rw [List.filterMap_append, List.filterMap_cons, e2, List.filterMap_nil, List.append_assoc]
      | false =>
        unfold KBc2 at hb
        rw [if_neg (by decide)] at hb ⊢
        obtain ⟨⟨e1, e2⟩, e3, e4⟩ := hb
        subst e1 e3
        refine ⟨rest2.length, _, _, Nat.lt_succ_self _, e4, OS.refl, done2 ++ [e], rest2, by rw [hes]; simp, rfl, rfl, rfl, ?_⟩
        rw [List.filterMap_append, List.filterMap_cons, e2]; simp
theorem Ev.compM2 {elt t1 i1 t2 i2 : Expr} {f2 : List Expr} {scope : Scope} {pos : Pos} {cl : List (Str × Addr)} (ρc κc : Rho) (es : D → List D) (f : D → D → Option D) {Q : D → Own → Prop} (hh : A.handled = none) (hp : PairT t1 = true) (hp2 : PairT t2 = true)
    (hclos : closureFor scope env = pure cl) (hkind : scope.kind = .function) (hnames : (scope.names.map (·.1)).Nodup) (hnc : (scope.names.all fun x => !(x.2 == .cell) && !(x.1 == ("__debug__" : Str))) = true)
    (hρ : rho0 scope.names [] = ρc) (hκ : CK env (relabel scope env) cl κ κc) (hs : ∀ x, foldedSetIterable i1 env x = pure x) (hs2 : ∀ L x, foldedSetIterable i2 (compEnvC scope cl L env) x = pure x)
    (h : Ev Γ A env ρ κ O i1 fun d O₁ => GetI Γ A O₁ d fun I O₂ => ∃ ds W, O₂ = (I, .iter ds) :: W ∧ (∀ L, ∀ d ∈ ds, BodyC2 Γ A (compEnvC scope cl L env) ρc κc t1 t2 i2 f2 elt d (es d) (f d)) ∧ (ds.flatMap fun d => (es d).filterMap (f d)).length ≤ sizeLine ∧ Q (.lst (ds.flatMap fun d => (es d).filterMap (f d))) W) :
    Ev Γ A env ρ κ O (.ListComp elt [⟨t1, i1, [], 0⟩, ⟨t2, i2, f2, 0⟩] scope pos) Q := by
  refine Ev.comp ρc κc hclos hkind hnames hnc hρ hκ hs (h.mono fun d O₁ h₁ g s v ok i => (h₁ g s v ok i).mono fun I O₂ ⟨ds, W, e, hb, hl, q⟩ => ?_)
  subst e
  exact ⟨⟨_, .head _, .inl ⟨_, rfl⟩⟩, fun acc L => Cl.map2 es f hh hp hp2 (hs2 L) (hb L) hl ⟨_, _, rfl, q⟩⟩
end
end Lw
end
section
namespace Lw
open PySem PySem.Calls PyProof.Rows PySem.W
noncomputable abbrev Gam.more (Γ : Gam) (X : Frag) : Gam := ⟨Γ.prog, Γ.w, Γ.K ++ X, Γ.mg, Γ.mb, Γ.os⟩
theorem lookup_left {K X : Frag} {a : Addr} {o : Obj} (h : K.lookup a = some o) : (K ++ X).lookup a = some o := by
  rw [List.lookup_append, h]; rfl
theorem Gam.In.less {Γ : Gam} {X : Frag} {g : Heap} (h : (Γ.more X).In g) : Γ.In g := ⟨fun a o e => h.kin a o (lookup_left e), h.ng, h.nb, h.nl, h.boot⟩
theorem Okb.less' {Γ : Gam} {X : Frag} {g : Heap} {s : Shared} {O : Own} (h : Okb (Γ.more X) g s O) : Okb Γ g s O := ⟨h.keep, h.gam.less, h.own, h.nd, h.gens, h.os⟩
theorem Okb.more {Γ : Gam} {X : Frag} {g g' : Heap} {s' : Shared} {O : Own} (h : (Γ.more X).In g) (u : Sub g g') (k : Okb Γ g' s' O) : Okb (Γ.more X) g' s' O := ⟨k.keep, h.up u, k.own, k.nd, k.gens, k.os⟩
theorem Exs.tr {Γ : Gam} {X : Frag} {A : Around} {env : Env} {ρ κ : Rho} {O : Own} {t : Sem Flow} {Q : Fl → Rho → Rho → Own → Prop} (h : Exs Γ A env ρ κ O t Q) : Exs (Γ.more X) A env ρ κ O t Q := fun g s ok F =>
  wpAny_mono (h g s ok.less' F) (fun v s' hx2 => by obtain ⟨g', ρ', κ', O', f, G, hf, q⟩ := hx2; exact ⟨g', ρ', κ', O', f, ⟨G.ok.more ok.gam G.to.up, G.fr, G.to, G.wi, G.ks⟩, hf, q⟩) fun _ _ e => e
section
variable {Γ : Gam} {A : Around} {env : Env} {ρ κ : Rho} {O : Own}
theorem inL_of_ints {g : Heap} : ∀ {vs : List Value} {ns : List Int}, IntsAre vs ns → InL g vs (ns.map .int)
  | _, _, .nil => .nil
  | _, _, .cons n t r => .cons (.int n t) (inL_of_ints r)
theorem Op2.sliceK {value slice : Expr} {l : Addr} {o : Obj} {vs : Array Value} {n : Nat} {ns : List Int} {lo hi st : Option Int} {Q : D → Own → Prop} (hk : Γ.K.lookup l = some o) (hc : o.cls = .type "list") (hd : o.data = .seq vs n) (hi' : IntsAre vs.toList ns) (h0 : st ≠ some 0) (hz : ns.length ≤ sizeLine) (q : Q (.lst (pickD (ns.map .int) lo hi st)) O)
    (hs : ∀ a b, ∃ ops, subscripted slice false (.ref a) (.ref b) = operate ops (getItem (.ref a) (.ref b))) : Op2 Γ A O (subscriptTail value slice) (.v (.ref l)) (.slc lo hi st) Q := fun g s v w ok i j => by
  cases i
  have r : InL g vs.toList (ns.map D.int) := inL_of_ints hi'
  have e : s.heap.get? l = some o := ok.keep _ _ (ok.gam.kin _ _ hk)
  cases j with
  | slc pl pu ps hsl =>
    rename_i b
    obtain ⟨ops, hs⟩ := hs l b
    have hsz : vs.size = ns.length := by have := r.length; rw [Array.length_toList, List.length_map] at this; exact this
    refine tail_any (T := "list") ⟨_, e, hc⟩ slot_list_getitem.lookup (wpAny_getItem_list_slice ⟨_, e, hc, _, hd⟩ ⟨_, ok.keep _ _ hsl, rfl, rfl⟩ (isPart_of pl) (isPart_of pu) (isPart_of ps) h0 ?_ (by rw [hsz]; exact hz)) hs
    obtain ⟨g', G, e'⟩ := Go.alloc (o := lstObj (slicePick vs (pl.map (·.1)) (pu.map (·.1)) (ps.map (·.1))) 0) ok rfl
    refine ⟨g', O, _, G, .lst e' ?_, q⟩
    unfold slicePick pickD
    rw [List.toList_toArray, hsz, List.length_map]
    have := (r.up G.to.up).pick (sliceRange (sliceBounds (pl.map (·.1)) (pu.map (·.1)) (ps.map (·.1)) ns.length).1 (sliceBounds (pl.map (·.1)) (pu.map (·.1)) (ps.map (·.1)) ns.length).2.1 (sliceBounds (pl.map (·.1)) (pu.map (·.1)) (ps.map (·.1)) ns.length).2.2)
    simpa using this
end
end Lw
end
section
namespace Lw
open PySem PySem.Calls PyProof.Rows PySem.W
section
variable {Γ : Gam} {A : Around} {env : Env} {ρ κ : Rho} {O : Own}
theorem InL.snoc {g : Heap} {d : D} : ∀ {ds : List D} {vs : List Value}, InL g vs (ds ++ [d]) → ∃ ws w, vs = ws ++ [w] ∧ InL g ws ds ∧ In g w d
  | [], vs, h => by
    obtain ⟨w, rfl, i⟩ := h.one
    exact ⟨[], w, rfl, .nil, i⟩
  | e :: ds, vs, h => by
    cases h with
    | cons a r =>
      obtain ⟨ws, w, rfl, q, i⟩ := InL.snoc r
      exact ⟨_ :: ws, w, rfl, .cons a q, i⟩
theorem Ca.pop {a : Addr} {d : D} {ds : List D} {O' : Own} {Q : D → Own → Prop} (u : OUp O a (.list (ds ++ [d])) (.list ds) O') (hf : ds.length + 1 ≤ sizeLine) (q : Q d O') : Ca Γ A O (.builtin "list.pop") [.v (.ref a)] [] Q := Ca.plain1 fun g s v ok iv => by
  cases iv
  obtain ⟨⟨vs, n, e, r⟩, ga⟩ := ok.own _ u.mem
  obtain ⟨ws, w, hv, rw', iw⟩ := InL.snoc r
  have hl : ws.length = ds.length := rw'.length
  have hsz : vs.size = ws.length + 1 := by rw [← Array.length_toList, hv, List.length_append]; rfl
  have hy : vs[vs.size - 1]? = some w := by
    rw [← Array.getElem?_toList, hv, hsz, Nat.add_sub_cancel, List.getElem?_append_right (Nat.le_refl _), Nat.sub_self]; rfl
  refine call_meets F.slot_list_pop ⟨_, e, rfl⟩ F.entry_list_pop (F.args_list_pop_1 _) (PySem.MeetsSeq.list_pop_last a vs n w hy (by exact om_168 hf hl hsz)) ⟨e, ?_⟩
  refine ⟨g, O', d, Go.turn ok u (Heap.SameBut.update ..) ⟨_, _, PySem.IsL.update e _, ?_⟩ _, iw, q⟩
  have : (vs.eraseIdxIfInBounds (vs.size - 1)).toList = ws := by
    rw [Array.eraseIdxIfInBounds]
    split
    · rw [Array.toList_eraseIdx, hv, hsz, Nat.add_sub_cancel, List.eraseIdx_append_of_length_le (Nat.le_refl _), Nat.sub_self]; simp
    · exact (om_169 hl hsz ‹_›).elim
  rw [this]
  exact rw'
end
end Lw
end
section
namespace Lw
open PySem PySem.Calls PyProof.Rows PySem.W
theorem strs_of {g : Heap} : ∀ {ts : List Str} {vs : List Value}, InL g vs (ts.map .str) → ∃ l : List (Str × Tok), vs = strValues l ∧ l.map (·.1) = ts
  | [], vs, h => by cases h; exact ⟨[], rfl, rfl⟩
  | t :: ts, vs, h => by
    cases h with
    | cons a r =>
      cases a with
      | str _ k =>
        obtain ⟨l, hv, ht⟩ := strs_of r
        exact ⟨(t, k) :: l, by rw [hv]; rfl, by rw [← ht]; rfl⟩
theorem ints_of {g : Heap} : ∀ {ns : List Int} {vs : List Value}, InL g vs (ns.map .int) → ∃ xs : List (Int × Tok), vs = xs.map (fun p => .int p.1 p.2) ∧ xs.map (·.1) = ns
  | [], vs, h => by cases h; exact ⟨[], rfl, rfl⟩
  | t :: ts, vs, h => by
    cases h with
    | cons a r =>
      cases a with
      | int _ k =>
        obtain ⟨l, hv, ht⟩ := ints_of r
        exact ⟨(t, k) :: l, by rw [hv]; rfl, by rw [← ht]; rfl⟩
noncomputable def maxI : List Int → Int
  | [] => 0
  | a :: l => l.foldl max a
noncomputable def minI : List Int → Int
  | [] => 0
  | a :: l => l.foldl min a
theorem foldl_max : ∀ (l : List Int) (a : Int), (l.foldl max a ∈ a :: l) ∧ ∀ b ∈ a :: l, b ≤ l.foldl max a
  | [], a => ⟨.head _, fun b hb => by rcases List.mem_cons.mp hb with rfl | h; exact Int.le_refl _; cases h⟩
  | c :: l, a => by
    obtain ⟨h1, h2⟩ := foldl_max l (max a c)
    rw [List.foldl_cons]
    have h3 := h2 _ (.head _)
    refine ⟨?_, fun b hb => ?_⟩
    · rcases List.mem_cons.mp h1 with h | h
      · rw [h]
        rcases Int.le_total a c with k | k
        · rw [Int.max_eq_right k]; exact .tail _ (.head _)
        · rw [Int.max_eq_left k]; exact .head _
      · exact .tail _ (.tail _ h)
    · rcases List.mem_cons.mp hb with rfl | hb
      · exact om_170 h3
      · rcases List.mem_cons.mp hb with rfl | hb
        · exact om_171 h3
        · exact h2 _ (.tail _ hb)
theorem foldl_min : ∀ (l : List Int) (a : Int), (l.foldl min a ∈ a :: l) ∧ ∀ b ∈ a :: l, l.foldl min a ≤ b
  | [], a => ⟨.head _, fun b hb => by rcases List.mem_cons.mp hb with rfl | h; exact Int.le_refl _; cases h⟩
  | c :: l, a => by
    obtain ⟨h1, h2⟩ := foldl_min l (min a c)
    rw [List.foldl_cons]
    have h3 := h2 _ (.head _)
    refine ⟨?_, fun b hb => ?_⟩
    · rcases List.mem_cons.mp h1 with h | h
      · rw [h]
        rcases Int.le_total a c with k | k
        · rw [Int.min_eq_left k]; exact .head _
        · rw [Int.min_eq_right k]; exact .tail _ (.head _)
      · exact .tail _ (.tail _ h)
    · rcases List.mem_cons.mp hb with rfl | hb
      · exact om_172 h3
      · rcases List.mem_cons.mp hb with rfl | hb
        · exact om_173 h3
        · exact h2 _ (.tail _ hb)
theorem maxI_of {l : List Int} {m : Int} (hm : m ∈ l) (hb : ∀ b ∈ l, b ≤ m) : m = maxI l := by
  cases l with
  | nil => cases hm
  | cons a l => exact Int.le_antisymm ((foldl_max l a).2 _ hm) (hb _ (foldl_max l a).1)
theorem minI_of {l : List Int} {m : Int} (hm : m ∈ l) (hb : ∀ b ∈ l, m ≤ b) : m = minI l := by
  cases l with
  | nil => cases hm
  | cons a l => exact Int.le_antisymm (hb _ (foldl_min l a).1) ((foldl_min l a).2 _ hm)
section
variable {Γ : Gam} {A : Around} {env : Env} {ρ κ : Rho} {O : Own}
theorem Ca.join {x : Str} {d : D} {ts : List Str} {Q : D → Own → Prop} (l : LstOf O d (ts.map .str)) (hok : JoinOk x ts = true) (q : Q (.str (Txt.join x ts)) O) : Ca Γ A O (.builtin "str.join") [.str x, d] [] Q := Ca.plain2 fun g s v w ok i j => by
  cases i
  obtain ⟨a, vs, n, rfl, e, r⟩ := l.at ok j
  obtain ⟨l, hv, ht⟩ := strs_of r
  have hl : s.heap.IsList a (strValues l).toArray := by rw [← hv, Array.toArray_toList]; exact isList_of e
  exact SC.join hl ht hok fun t' k => T.val ok k (.str _ _) q
theorem Ca.maxL {d : D} {ns : List Int} {Q : D → Own → Prop} (hh : A.handled = none) (l : LstOf O d (ns.map .int)) (hne : 0 < ns.length) (q : Q (.int (maxI ns)) O) : Ca Γ A O (.builtin "max") [d] [] Q := Ca.plain1 fun g s v ok i => by
  obtain ⟨a, vs, n, rfl, e, r⟩ := l.at ok i
  obtain ⟨xs, hv, ht⟩ := ints_of r
  have hl : s.heap.IsList a (intItems xs.toArray) := by
    have : vs = intItems xs.toArray := by rw [← Array.toArray_toList (xs := vs), hv]; unfold intItems; rw [List.map_toArray]
    rw [← this]; exact isList_of e
  have hns : ns = xs.toArray.toList.map (·.1) := by rw [← ht]
  have hsz : 0 < xs.toArray.size := by
    have h3 := hne; rw [hns, List.length_map, Array.length_toList] at h3; exact h3
  refine max_intList hh hl hsz fun v h' tk hv' hk => ?_
  obtain ⟨t, rfl⟩ := intItems_at hv'
  obtain ⟨h1, h2⟩ := argBest_gt (numAt xs.toArray) (xs.toArray.size - 1)
  have hm : numAt xs.toArray (argBest (fun i j => decide (numAt xs.toArray i > numAt xs.toArray j)) (xs.toArray.size - 1)) = maxI ns := by
    refine maxI_of ?_ fun b hb => ?_
    · rw [hns, numAt_eq]; exact PySem.getD_mem (by rw [List.length_map, Array.length_toList]; exact om_174 hsz h1)
    · rw [hns] at hb
      obtain ⟨j, hj, rfl⟩ := PySem.mem_getD hb
      rw [List.length_map, Array.length_toList] at hj
      rw [← numAt_eq]; exact h2 j (by exact om_175 hsz hj)
  rw [hm]
  exact ⟨g, O, _, Go.sub ok hk tk, .int _ _, q⟩
theorem Ca.minL {d : D} {ns : List Int} {Q : D → Own → Prop} (hh : A.handled = none) (l : LstOf O d (ns.map .int)) (hne : 0 < ns.length) (q : Q (.int (minI ns)) O) : Ca Γ A O (.builtin "min") [d] [] Q := Ca.plain1 fun g s v ok i => by
  obtain ⟨a, vs, n, rfl, e, r⟩ := l.at ok i
  obtain ⟨xs, hv, ht⟩ := ints_of r
  have hl : s.heap.IsList a (intItems xs.toArray) := by
    have : vs = intItems xs.toArray := by rw [← Array.toArray_toList (xs := vs), hv]; unfold intItems; rw [List.map_toArray]
    rw [← this]; exact isList_of e
  have hns : ns = xs.toArray.toList.map (·.1) := by rw [← ht]
  have hsz : 0 < xs.toArray.size := by
    have h3 := hne; rw [hns, List.length_map, Array.length_toList] at h3; exact h3
  refine min_intList hh hl hsz fun v h' tk hv' hk => ?_
  obtain ⟨t, rfl⟩ := intItems_at hv'
  obtain ⟨h1, h2⟩ := argBest_lt (numAt xs.toArray) (xs.toArray.size - 1)
  have hm : numAt xs.toArray (argBest (fun i j => decide (numAt xs.toArray i < numAt xs.toArray j)) (xs.toArray.size - 1)) = minI ns := by
    refine minI_of ?_ fun b hb => ?_
    · rw [hns, numAt_eq]; exact PySem.getD_mem (by rw [List.length_map, Array.length_toList]; exact om_174 hsz h1)
    · rw [hns] at hb
      obtain ⟨j, hj, rfl⟩ := PySem.mem_getD hb
      rw [List.length_map, Array.length_toList] at hj
      rw [← numAt_eq]; exact h2 j (by exact om_175 hsz hj)
  rw [hm]
  exact ⟨g, O, _, Go.sub ok hk tk, .int _ _, q⟩
theorem range_at (st : Int) : ∀ (n : Nat) (x : Int) (i : Nat), i < n → (rangeFrom x st n)[i]? = some (.int (x + i * st))
  | 0, x, i, h => by omega
  | n + 1, x, 0, h => by simp [rangeFrom]
  | n + 1, x, i + 1, h => by
    show (rangeFrom (x + st) st n)[i]? = _
    rw [range_at st n (x + st) i (by exact om_176 h)]
    congr 2
    rw [show ((i + 1 : Nat) : Int) = (i : Int) + 1 from rfl, Int.add_mul]
    exact om_177
theorem rangeFrom_len (st : Int) : ∀ (n : Nat) (x : Int), (rangeFrom x st n).length = n
  | 0, x => rfl
  | n + 1, x => by show (rangeFrom (x + st) st n).length + 1 = _; rw [rangeFrom_len st n]
theorem inL_of_at {g : Heap} : ∀ {vs : List Value} {ds : List D}, vs.length = ds.length → (∀ (i : Nat) (v : Value), vs[i]? = some v → ∃ d, ds[i]? = some d ∧ In g v d) → InL g vs ds
  | [], [], _, _ => .nil
  | [], d :: ds, h, _ => by simp at h
  | v :: vs, [], h, _ => by simp at h
  | v :: vs, d :: ds, h, k => by
    obtain ⟨d', e, i⟩ := k 0 v rfl
    cases e
    exact .cons i (inL_of_at (by simpa using h) fun j w hw => k (j + 1) w (by simpa using hw))
theorem Ca.listRng {a b : Int} {n : Nat} {Q : D → Own → Prop} (hh : A.handled = none) (hsmall : Builtin.Range.small a b 1 = true) (hn : Builtin.Range.rangeSize a b 1 = n) (hlen : n ≤ 2 ^ 24) (q : Q (.lst (rangeFrom a 1 n)) O) : Ca Γ A O (.type "list") [.rng a b 1] [] Q := Ca.plain1 fun g s v ok i => by
  cases i with
  | rng e =>
    refine call_list_range hh (ok.keep _ _ e) hsmall hn hlen fun h' tk acc' c' hk hS hacc => ?_
    have r : InL g acc'.toList (rangeFrom a 1 n) := by
      refine inL_of_at (by rw [Array.length_toList, hacc.1, rangeFrom_len]) fun i v hv => ?_
      have hi : i < n := by
        have := (List.getElem?_eq_some_iff.mp hv).1
        rw [Array.length_toList, hacc.1] at this; exact this
      obtain ⟨t, rfl⟩ := hacc.2 i v (by rw [← Array.getElem?_toList]; exact hv)
      exact ⟨_, range_at 1 n a i hi, .int _ _⟩
    have G := Go.sub ok hk tk
    have hnew : s.heap.get? s.heap.objs.size = none := by
      cases q : s.heap.get? s.heap.objs.size with
      | none => rfl
      | some o => exact absurd (Heap.lt_size q) (Nat.lt_irrefl _)
    obtain ⟨g', k1, k2, k3, k4⟩ := grow G.ok.keep hS
    have off : ∀ p ∈ O, p.1 ≠ s.heap.objs.size := fun p hp e => by
      obtain ⟨o', ho⟩ := (ok.own p hp).1.there
      rw [e, hnew] at ho; cases ho
    refine ⟨g', O, _, ⟨⟨k3, G.ok.gam.up k1, fun p hp => ?_, G.ok.nd, G.ok.gens, G.ok.os⟩, ⟨fun b o e _ => hk b o e, k1, fun b o e n => .inl ?_⟩, .refl⟩, .lst k2 (r.up k1), q⟩
    · obtain ⟨x, y⟩ := G.ok.own p hp
      exact ⟨x.up k1, by rw [k4 _ (off p hp)]; exact y⟩
    · by_cases q : b = s.heap.objs.size
      · rw [q]; exact hnew
      · rw [k4 b q, n] at e; cases e
end
end Lw
end
section
namespace Lw
open PySem PySem.Calls PyProof.Rows PySem.W

structure Begun (Γ : Gam) (env : Env) (g : Heap) (s : Shared) (O : Own) (ρ κ : Rho) (s' : Shared) : Prop where
  ok : Okb Γ g s' O
  fr : Frm env g s'.heap O ρ κ
  to : To g s (fun _ => False) g s'
  loc : s.heap.get? env.locals = none
  cel : ∀ b, isCell env κ b → s.heap.get? b = none
theorem none_size {h : Heap} {b : Addr} (hb : h.objs.size ≤ b) : h.get? b = none := by
  cases q : h.get? b with
  | none => rfl
  | some o => exact absurd (Heap.lt_size q) (Nat.not_lt.mpr hb)

theorem callRun {Γ : Gam} {A : Around} {f : Addr} {args : Args} {g : Heap} {s : Shared} {O : Own} {R : Result → Shared → Prop} {oc : Value} {od : Option Addr} {osl : Array (Option Value)} {fd : FuncData} {body : List Stmt} {params : List Str}
    (hdep : A.depth < recursionLimit) (ok : Okb Γ g s O)
    (hk : Γ.K.lookup f = some ⟨oc, od, .func fd, osl⟩) (hcd : codeIn Γ.K fd.code fd.qualname = true) (hb : fd.body = .stmts body)
    (hfix : fd.closure = [] ∧ fd.globals = mainGlobals ∧ fd.builtins = builtinsNs ∧ fd.scope.isCoroutine = false ∧ fd.scope.isGenerator = false ∧ fd.scope.kind = .function)
    (hdb : (fd.scope.names.all fun x => (!(x.2 == .local) && !(x.2 == .cell)) || (!(x.1 == ("__debug__" : Str)) && !(x.1 == ("__classdict__" : Str)))) = true) (hn : (fd.scope.names.map (·.1)).Nodup) (hp : params.Nodup) (hpk : ∀ p ∈ params, (p, NameKind.local) ∈ fd.scope.names ∨ (p, NameKind.cell) ∈ fd.scope.names)
    (h : wpAny Γ.M A.in1 (bindArgs fd args) (fun binds s₁ => ∃ g₁ O₁ bvs bds, binds = params.zip bvs ∧ Go Γ g s O g₁ s₁ O₁ ∧ InL g₁ bvs bds ∧
      ∀ L s₂, Begun Γ (callEnvC fd L f) g₁ s₁ O₁ (rho0 fd.scope.names (params.zip bds)) (kap0 fd.scope.names (params.zip bds)) s₂ → codeAny Γ.M A (.func body (callEnvC fd L f)) R s₂) (fun e s' => R (.error e) s') s) :
    codeAny Γ.M A (.call (.ref f) args) R s := by
  obtain ⟨f1, f2, f3, f4, f5, f6⟩ := hfix
  refine codeAny_call_function hdep (ok.kin _ _ hk) rfl f4 f5 hb (codeRec_of ok.kin hcd) (wpAny_mono h (fun binds s ⟨g, O, bvs, bds, eb, Gb, ib, hbody⟩ => ?_) fun _ _ e => e)
  have ok := Gb.ok
  subst eb
  have hL : g.get? s.heap.objs.size = none := by
    cases q : g.get? s.heap.objs.size with
    | none => rfl
    | some o => exact absurd (Heap.lt_size (ok.keep _ _ q)) (Nat.lt_irrefl _)
  have hnew : ∀ b, s.heap.objs.size ≤ b → g.get? b = none := fun b hb => by
    cases q : g.get? b with
    | none => rfl
    | some o => exact absurd (Heap.lt_size (ok.keep _ _ q)) (Nat.not_lt.mpr hb)
  have hoff : ∀ b, s.heap.objs.size ≤ b → ¬ dom O b := fun b hb hm => by
    obtain ⟨p, hp, rfl⟩ := List.mem_map.mp hm
    obtain ⟨o, ho⟩ := (ok.own p hp).1.there
    exact absurd (Heap.lt_size ho) (Nat.not_lt.mpr hb)
  rw [f1]
  refine wpAny_newFunctionEnv_cells f6 (fun x hx => ?_) fun env he s₁ x => ?_
  · have hx1 : x.1 ∈ params := (List.of_mem_zip hx).1
    rcases hpk _ hx1 with z | z
    · exact .inl (lookup_of_mem hn z)
    · exact .inr ⟨lookup_of_mem hn z, cellsFrom_some (.inl z)⟩
  · have he' : env = callEnvC fd s.heap.objs.size f := he
    subst he'
    obtain ⟨h₁, tk, es⟩ := x.toInCall.same
    have k1 := x.toInCall.keep
    have hkind : ∀ y k, (y, k) ∈ fd.scope.names → (callEnvC fd s.heap.objs.size f).kindOf y = some k := fun y k hy => lookup_of_mem hn hy
    have ok₁ : Okb Γ g s₁ O := by
      refine ⟨ok.keep.trans k1, ok.gam, fun p hp => ?_, ok.nd, by rw [es]; exact ok.gens, by rw [es]; exact ok.os⟩
      obtain ⟨a, b⟩ := ok.own p hp
      obtain ⟨o, ho⟩ := a.there
      exact ⟨a.same (by rw [k1 _ _ ho, ho]), b⟩
    have F₁ : Frm (callEnvC fd s.heap.objs.size f) g s₁.heap O (rho0 fd.scope.names (params.zip bds)) (kap0 fd.scope.names (params.zip bds)) := by
      have hdbg : ∀ x k, (x, k) ∈ fd.scope.names → (k = .local ∨ k = .cell) → (x == ("__debug__" : Str)) = false ∧ (x == ("__classdict__" : Str)) = false := fun x k hx hk => by
        have := List.all_eq_true.mp hdb _ hx
        rcases hk with rfl | rfl <;> simpa using this
      refine ⟨f6, f2, f3, ⟨_, x.toInCall.ns, fun y d hy => ?_⟩, fun p hp => ?_, ?_, hL, hoff _ (Nat.le_refl _), fun p hp => hdbg _ _ (mem_kap0 (x := p.1) (od := p.2) hp).1 (.inr rfl), fun p hp => ?_, ?_, fun p hp q hq e => ?_⟩
      · obtain ⟨z1, z2⟩ := mem_rho0 hy
        obtain ⟨v, a, b⟩ := zip_get ib z2
        exact ⟨v, by rw [bindL_at (hkind _ _ z1) (zip_keys hp), a]; rfl, b⟩
      · exact ⟨hkind _ _ (mem_rho0 (x := p.1) (od := p.2) hp).1, (hdbg _ _ (mem_rho0 (x := p.1) (od := p.2) hp).1 (.inl rfl)).1⟩
      · exact filterMap_keys (fun a b e => by split at e <;> cases e; rfl) hn
      · obtain ⟨z1, z2⟩ := mem_kap0 (x := p.1) (od := p.2) hp
        refine ⟨.inl (hkind _ _ z1), ?_⟩
        have hs : (((callEnvC fd s.heap.objs.size f).cells).lookup p.1).isSome = true := cellsFrom_some (.inl z1)
        obtain ⟨ca, hca⟩ := Option.isSome_iff_exists.mp hs
        have hab := x.above _ _ (mem_of_lookup hca)
        have hle : s.heap.objs.size ≤ ca := Nat.le_of_lt hab
        refine ⟨ca, hca, hnew _ hle, hoff _ hle, Nat.ne_of_gt hab, _, x.cell _ _ hca, fun d hd => ?_⟩
        obtain ⟨v, a, b⟩ := zip_get ib (z2.trans hd)
        exact ⟨v, by rw [bindC_at (hkind _ _ z1) (zip_keys ‹params.Nodup›), a]; rfl, b⟩
      · exact filterMap_keys (fun a b e => by split at e <;> cases e; rfl) hn
      · obtain ⟨z1, _⟩ := mem_kap0 (x := p.1) (od := p.2) hp
        have hs : (((callEnvC fd s.heap.objs.size f).cells).lookup p.1).isSome = true := cellsFrom_some (.inl z1)
        obtain ⟨ca, hca⟩ := Option.isSome_iff_exists.mp hs
        have hq' := e ▸ hca
        exact name_of_addr x.apart (mem_of_lookup hca) (mem_of_lookup hq')
    refine ⟨ok.gam.nl.keeps (ok.keep.trans k1), hbody _ s₁ ⟨ok₁, F₁, ⟨fun b o e _ => k1 b o e, Sub.refl _, fun b o e z => by rw [z] at e; cases e⟩, none_size (Nat.le_refl _), fun b hb => ?_⟩⟩
    obtain ⟨_, y, hy, hl⟩ := hb
    exact none_size (Nat.le_of_lt (x.above _ _ (mem_of_lookup hl)))

theorem Begun.ret {Γ : Gam} {A : Around} {env : Env} {g₀ g : Heap} {s₀ s₁ s : Shared} {O₀ O : Own} {ρ κ : Rho} {body : List Stmt} {Q : D → Own → Prop} (B : Begun Γ env g s₁ O ρ κ s) (G₀ : Go Γ g₀ s₀ O₀ g s₁ O)
    (h : Ss Γ (A.deeper env) env ρ κ O body fun fl _ _ O' => ∃ d, RetOf fl d ∧ Q d O') :
    codeAny Γ.M A (.func body env) (fun r s' => match r with | .ok (.ret v) => ∃ g' O' d, Go Γ g₀ s₀ O₀ g' s' O' ∧ In g' v d ∧ Q d O' | .ok _ => False | .error _ => False) s :=
  codeAny_func (Fx.use (h g s B.ok B.fr) (fun fl s₂ g₂ ρ₂ κ₂ O₂ q G hq ⟨d, r, hQ⟩ => by
    have Gf : Go Γ g s₁ O g₂ s₂ O₂ := by
      refine ⟨G.ok, To.trans (B.to.weak (Y := dom O) fun _ h => h.elim) G.to fun b hb => ?_, wi_trans .refl B.to G.wi fun _ h => h.elim⟩
      rcases hb with hb | hb | hb
      · exact .inr (hb ▸ B.loc)
      · exact .inr (B.cel _ hb)
      · exact .inl hb
    have Ga := G₀.trans Gf
    cases r with
    | ret => cases hq with | ret i => exact ⟨g₂, O₂, _, Ga, i, hQ⟩
    | next => cases hq; exact ⟨g₂, O₂, _, Ga, .none, hQ⟩))
theorem bind_eq {M : Model} {A : Around} {fd : FuncData} {args : Args} {t : Sem (List (Str × Value))} {E : Value → Shared → Prop} {s : Shared} {Q : List (Str × Value) → Shared → Prop} (e : bindArgs fd args = t) (h : wpAny M A t Q E s) : wpAny M A (bindArgs fd args) Q E s := e ▸ h
noncomputable def CalP (P : Around → Prop) (Γ : Gam) (n : Nat) (f : Value) (ds : List D) (kws : List (Str × D)) (O : Own) (Q : D → Own → Prop) : Prop :=
  ∀ A g s vs ks, P A → Room A n → Okb Γ g s O → InL g vs ds → InL g ks (kws.map (·.2)) → CT Γ A (.call f ⟨vs, (kws.map (·.1)).zip ks⟩) g s O Q
theorem CalP.cal {Γ : Gam} {n : Nat} {f : Value} {ds : List D} {kws : List (Str × D)} {O : Own} {Q : D → Own → Prop} (h : CalP (fun _ => True) Γ n f ds kws O Q) : Cal Γ n f ds kws O Q := fun A g s vs ks => h A g s vs ks trivial
theorem CalP.intro {P : Around → Prop} {Γ : Gam} {n : Nat} {f : Addr} {ds : List D} {kws : List (Str × D)} {O : Own} {Q : D → Own → Prop} {oc : Value} {od : Option Addr} {osl : Array (Option Value)} {fd : FuncData} {body : List Stmt} {params : List Str} (B : List D → Own → Prop)
    (hk : Γ.K.lookup f = some ⟨oc, od, .func fd, osl⟩) (hcd : codeIn Γ.K fd.code fd.qualname = true) (hb : fd.body = .stmts body)
    (hfix : fd.closure = [] ∧ fd.globals = mainGlobals ∧ fd.builtins = builtinsNs ∧ fd.scope.isCoroutine = false ∧ fd.scope.isGenerator = false ∧ fd.scope.kind = .function)
    (hbind : ∀ A g s vs ks, Okb Γ g s O → InL g vs ds → InL g ks (kws.map (·.2)) → wpAny Γ.M A (bindArgs fd ⟨vs, (kws.map (·.1)).zip ks⟩) (fun binds s₁ => ∃ g₁ O₁ bvs bds, binds = params.zip bvs ∧ Go Γ g s O g₁ s₁ O₁ ∧ InL g₁ bvs bds ∧ B bds O₁) (fun _ _ => False) s)
    (hdb : (fd.scope.names.all fun x => (!(x.2 == .local) && !(x.2 == .cell)) || (!(x.1 == ("__debug__" : Str)) && !(x.1 == ("__classdict__" : Str)))) = true) (hn : (fd.scope.names.map (·.1)).Nodup) (hp : params.Nodup) (hpk : ∀ p ∈ params, (p, NameKind.local) ∈ fd.scope.names ∨ (p, NameKind.cell) ∈ fd.scope.names)
    (h : ∀ A L bds O₁ ρ κ, (∃ A₀, P A₀ ∧ A = A₀.deeper (callEnvC fd L f)) → Room A n → B bds O₁ → rho0 fd.scope.names (params.zip bds) = ρ → kap0 fd.scope.names (params.zip bds) = κ → Ss Γ A (callEnvC fd L f) ρ κ O₁ body fun fl _ _ O' => ∃ d, RetOf fl d ∧ Q d O') :
    CalP P Γ (n + 1) (.ref f) ds kws O Q := fun A g s vs ks hA room ok iv ik =>
  callRun (show A.depth < recursionLimit by have := room.d; unfold recursionLimit; exact om_178 this) ok hk hcd hb hfix hdb hn hp hpk
    (wpAny_mono (hbind A.in1 g s vs ks ok iv ik) (fun binds s₁ hx2 => by obtain ⟨g₁, O₁, bvs, bds, e, G, i, b⟩ := hx2; exact ⟨g₁, O₁, bvs, bds, e, G, i, fun L s₂ Bg => Bg.ret G (h _ L bds O₁ _ _ ⟨A, hA, rfl⟩ room.deep b rfl rfl)⟩) fun _ _ e => e.elim)
end Lw
end
section
namespace Lw
open PySem PySem.Calls PyProof.Rows PySem.W
section
variable {Γ : Gam} {A : Around} {env : Env} {ρ κ : Rho} {O : Own}
theorem S1.forItems0 {target : Expr} {x : Str} {np apos cpos pos : Pos} {a : Addr} {body : List Stmt} {Q : Fl → Rho → Rho → Own → Prop} (hh : A.handled = none)
    (h : Ev Γ A env ρ κ O (.Name x np) fun d O₁ => d = .v (.ref a) ∧ O₁ = O) (m : (a, .dict []) ∈ O) (hsm : (a == sysModules) = false)
    (hm : MethForm (.Name x np) "items" apos cpos [] [] env)
    (hs' : ∀ y, foldedSetIterable (.Call (.Attribute (.Name x np) "items" apos) [] [] cpos) env y = pure y) (q : Q .next ρ κ O) :
    S1 Γ A env ρ κ O (.For target (.Call (.Attribute (.Name x np) "items" apos) [] [] cpos) body [] pos) Q := fun g s ok F => by
  obtain ⟨pl, he⟩ := hm
  refine wpAny_For ?_ hs'
  rw [he]
  refine wpAny_bind (T.use (h g s ok F) (fun v s₁ g₁ O₁ d G₁ i hq9 => wpAny_bind (wpAny_standAt (wpAny_bind (wpAny_holding ?_)))))
  obtain ⟨e1, e2⟩ := hq9
  subst e1 e2
  cases i
  obtain ⟨⟨es, n, hd, hes⟩, hn⟩ := G₁.ok.own _ m
  have hes0 : es = #[] := by
    have := hes.length
    rw [Array.length_toList] at this
    exact Array.eq_empty_of_size_eq_zero this
  subst hes0
  have hT : s₁.TypeIs (.ref a) "dict" := ⟨_, hd, rfl⟩
  refine getMethod_builtin hT PySem.F.plainAttrs_dict PySem.F.slot_dict_items PySem.F.type_dict_items (fun a' h => by cases h; exact ⟨_, hd, rfl⟩) ?_
  refine callKp Kp.bui rfl (spliced_nil ⟨G₁.ok.kin, ?_⟩)
  have hdo : s₁.heap.DictOf (strKind Γ.prog Γ.w) a [] := ⟨_, _, _, hd, ⟨rfl, rfl, rfl⟩, rfl, fun _ he => by simp at he, .nil, List.nodup_nil⟩
  refine call_meetsIn PySem.F.slot_dict_items hT PySem.F.entry_dict_items (PySem.F.args_dict_items_1 _) (meets_dict_items (strKind Γ.prog Γ.w) a hsm) ⟨⟨_, hdo⟩, ?_⟩
  have k1 : Sub s₁.heap (s₁.heap.push { cls := .type "dict_items", data := .fields #[.ref a] }) := fun b o e => Heap.get?_push_of_some _ e
  obtain ⟨ep, hda⟩ := (Heap.DictOf.dictAt hdo)
  have hda' := hda.push { cls := .type "dict_items", data := .fields #[.ref a] }
  refine wpAny_pyIter_items (knd := strKind Γ.prog Γ.w) (kvs := []) (ep := ep) (d := a) ⟨_, Heap.get?_push_size _ rfl, rfl, rfl⟩ hda' ?_
  have hda'' := hda'.push { cls := .type "dict_itemiterator", data := .fields #[.none, .bool false, .ref a, .int 0 0, .int (([] : List (Str × Value)).length) 0, .int ep 0, .none, .none] }
  refine codeAny_forLoop_any (fun _ s' => s' = { s₁ with heap := (s₁.heap.push { cls := .type "dict_items", data := .fields #[.ref a] }).push { cls := .type "dict_itemiterator", data := .fields #[.none, .bool false, .ref a, .int 0 0, .int (([] : List (Str × Value)).length) 0, .int ep 0, .none, .none] } }) ?_ 0 rfl
  rintro n s' rfl
  refine noE (wpAny_pyNext_items_end (knd := strKind Γ.prog Γ.w) (i := 0) (kvs := []) (d := a) hh (Heap.get?_push_size _ rfl) hda'' rfl fun h' hx => ?_)
  refine noE (wpAny_execs_nil ?_)
  have k2 : Sub s₁.heap h' := fun b o e => by
    have e1 := k1 b o e
    have e2 := Heap.get?_push_of_some { cls := .type "dict_itemiterator", data := .fields #[.none, .bool false, .ref a, .int 0 0, .int (([] : List (Str × Value)).length) 0, .int ep 0, .none, .none] } e1
    exact hx b o (Nat.ne_of_lt (Heap.lt_size e1)) e2
  exact ⟨g₁, ρ, κ, _, .next, .ofGo F (G₁.trans (Go.sub G₁.ok k2 _)), .next, q⟩
end
end Lw
end
section
namespace Lw
open PySem PySem.Calls PyProof.Rows PySem.W

noncomputable def frs (l : List Env) : List Addr := l.filterMap (·.frame)
noncomputable def Stk (l : List Env) (g h : Heap) (O : Own) : Prop :=
  ∀ e ∈ l, e.scope.kind = .function ∧ e.frame = some e.locals ∧ g.get? e.locals = none ∧ ¬ dom O e.locals ∧ ∃ o, h.get? e.locals = some o ∧ ∀ vs, o.data ≠ .fields vs
theorem Stk.at {l : List Env} {g h : Heap} {O : Own} (k : Stk l g h O) {b : Addr} (hb : b ∈ frs l) : g.get? b = none ∧ ¬ dom O b ∧ ∃ o, h.get? b = some o ∧ ∀ vs, o.data ≠ .fields vs := by
  obtain ⟨e, he, hf⟩ := List.mem_filterMap.mp hb
  obtain ⟨_, h2, h3, h4, h5⟩ := k e he
  rw [h2] at hf
  cases hf
  exact ⟨h3, h4, h5⟩
theorem Stk.frames {l : List Env} {g h : Heap} {O : Own} (k : Stk l g h O) : h.FunFrames (hideAll h (frs l)) l := by
  have : ∀ (r : List Env), (∀ e ∈ r, e ∈ l) → h.FunFrames (hideAll h (frs l)) r := by
    intro r
    induction r with
    | nil => exact fun _ => trivial
    | cons e r ih =>
      intro hr
      obtain ⟨h1, h2, h3, h4, o, h5, h6⟩ := k e (hr e (.head _))
      refine ⟨by rw [h1]; decide, ⟨e.locals, o, h2, ?_, h5, h6⟩, ih fun x hx => hr x (.tail _ hx)⟩
      exact hideAll_none _ (List.mem_filterMap.mpr ⟨e, hr e (.head _), h2⟩)
  exact this l fun _ h => h
section
variable {Γ : Gam}
theorem Stk.go {l : List Env} {g g' : Heap} {s s' : Shared} {O O' : Own} (k : Stk l g s.heap O) (G : Go Γ g s O g' s' O') : Stk l g' s'.heap O' := fun e he => by
  obtain ⟨h1, h2, h3, h4, o, h5, h6⟩ := k e he
  exact ⟨h1, h2, G.to.none h5 h4 h3, G.wi.off h4 h5, o, G.to.pres _ _ h5 h4, h6⟩
theorem no_isCell {env : Env} {b : Addr} : ¬ isCell env [] b := fun ⟨_, x, hx, _⟩ => nomatch hx
theorem ns_obj {h : Heap} {a : Addr} {m : Str → Option Value} (x : h.Ns a m) : ∃ o, h.get? a = some o ∧ ∀ vs, o.data ≠ .fields vs := by
  obtain ⟨o, es, ep, ho, hd, r⟩ := x
  exact ⟨o, ho, fun vs q => by rw [hd] at q; cases q⟩
theorem Stk.gs {l : List Env} {env : Env} {g g' : Heap} {s s' : Shared} {ρ' κ' : Rho} {O O' : Own} (k : Stk (env :: l) g s.heap O) (ap : ∀ e ∈ l, e.locals ≠ env.locals) (G : Gs Γ env g s [] O g' s' ρ' κ' O') : Stk (env :: l) g' s'.heap O' := fun e he => by
  rcases List.mem_cons.mp he with rfl | he'
  · obtain ⟨h1, h2, _⟩ := k e (.head _)
    obtain ⟨m, hm, _⟩ := G.fr.loc
    exact ⟨h1, h2, G.fr.gl, G.fr.lo, ns_obj hm⟩
  · obtain ⟨h1, h2, h3, h4, o, h5, h6⟩ := k e he
    have nx : ¬ Xf env [] O e.locals := fun x => by
      rcases x with x | x | x
      · exact ap e he' x
      · exact no_isCell x
      · exact h4 x
    exact ⟨h1, h2, G.to.none h5 nx h3, G.wi.off h4 h5, o, G.to.pres _ _ h5 nx, h6⟩

noncomputable abbrev VE : Value := .type "ValueError"
noncomputable def Flt (Γ : Gam) (l : List Env) (X : Addr → Prop) (g : Heap) (s : Shared) (O : Own) (Q : Own → Prop) (e : Value) (s' : Shared) : Prop :=
  ∃ B a t g' O', e = .ref a ∧ Heap.FlyingW B l a VE (.ref t) s'.heap ∧ Okb Γ g' { s' with heap := B } O' ∧ To g s (fun b => X b ∨ dom O b ∨ b ∈ frs l) g' { s' with heap := B } ∧ Wi O O' s.heap ∧
    (∀ b ∈ frs l, ¬ X b → ∀ o, s.heap.get? b = some o → ∃ sl, s'.heap.get? b = some { o with slots := sl }) ∧ Q O'
theorem Flt.pre {l : List Env} {X : Addr → Prop} {g g₁ : Heap} {s s₁ s' : Shared} {O O₁ : Own} {Q : Own → Prop} {e : Value} (k : Stk l g s.heap O) (G : Go Γ g s O g₁ s₁ O₁) (h : Flt Γ l X g₁ s₁ O₁ Q e s') : Flt Γ l X g s O Q e s' := by
  obtain ⟨B, a, t, g', O', h1, h2, h3, h4, h5, h6, h7⟩ := h
  refine ⟨B, a, t, g', O', h1, h2, h3, To.trans (G.to.weak (Y := fun b => X b ∨ dom O b ∨ b ∈ frs l) fun b z => .inl (.inr (.inl z))) h4 fun b z => ?_, wi_trans G.wi G.to h5 fun _ h => .inl h, fun b hb hx o ho => ?_, h7⟩
  · rcases z with z | z | z
    · exact .inl (.inl z)
    · exact (G.wi b z).imp (fun y => .inr (.inl y)) id
    · exact .inl (.inr (.inr z))
  · exact h6 b hb hx o (G.to.pres _ _ ho (k.at hb).2.1)
theorem Flt.preS {l : List Env} {env : Env} {g g₁ : Heap} {s s₁ s' : Shared} {ρ₁ κ₁ : Rho} {O O₁ : Own} {Q : Own → Prop} {e : Value} (k : Stk (env :: l) g s.heap O) (G : Gs Γ env g s [] O g₁ s₁ ρ₁ κ₁ O₁) (h : Flt Γ (env :: l) (fun b => b = env.locals) g₁ s₁ O₁ Q e s') : Flt Γ (env :: l) (fun b => b = env.locals) g s O Q e s' := by
  obtain ⟨B, a, t, g', O', h1, h2, h3, h4, h5, h6, h7⟩ := h
  refine ⟨B, a, t, g', O', h1, h2, h3, To.trans (G.to.weak (Y := fun b => b = env.locals ∨ dom O b ∨ b ∈ frs (env :: l)) fun b z => .inl ?_) h4 fun b z => ?_, wi_trans G.wi G.to h5 fun b hb => ?_, fun b hb hx o ho => ?_, h7⟩
  · rcases z with z | z | z
    · exact .inl z
    · exact (no_isCell z).elim
    · exact .inr (.inl z)
  · rcases z with z | z | z
    · exact .inl (.inl z)
    · exact (G.wi b z).imp (fun y => .inr (.inl y)) id
    · exact .inl (.inr (.inr z))
  · rcases hb with z | z | z
    · refine .inr (.inr fun q => ?_)
      obtain ⟨p, hp, e1⟩ := List.mem_map.mp q
      obtain ⟨o, ho⟩ := (h3.own p hp).1.there
      obtain ⟨h8, ⟨L, oL, hf, hn, _⟩, _⟩ := h2.2.2.1
      have hL := (k env (.head _)).2.1
      rw [hL] at hf
      cases hf
      rw [e1, z] at ho
      rw [hn] at ho
      cases ho
    · exact (no_isCell z).elim
    · exact .inl z
  · refine h6 b hb hx o (G.to.pres _ _ ho fun z => ?_)
    rcases z with z | z | z
    · exact hx z
    · exact no_isCell z
    · exact (k.at hb).2.1 z
theorem Flt.mono {l : List Env} {X Y : Addr → Prop} {g : Heap} {s s' : Shared} {O : Own} {Q Q' : Own → Prop} {e : Value} (h : Flt Γ l X g s O Q e s') (hx : ∀ b, X b → Y b) (k : ∀ O', Q O' → Q' O') : Flt Γ l Y g s O Q' e s' := by
  obtain ⟨B, a, t, g', O', h1, h2, h3, h4, h5, h6, h7⟩ := h
  exact ⟨B, a, t, g', O', h1, h2, h3, h4.weak fun b z => .inl (z.imp (hx b) id), h5, fun b hb hy => h6 b hb fun z => hy (hx b z), k _ h7⟩

noncomputable def Mde (Γ : Gam) (env : Env) (g : Heap) (s : Shared) (O : Own) (Q : Own → Prop) (e : Value) (s' : Shared) : Prop :=
  ∃ a h vs g' ρ' O', e = .ref a ∧ Gs Γ env g s [] O g' { s' with heap := h } ρ' [] O' ∧ Heap.MadeExcOf h s'.heap a VE vs ∧ Q O'
noncomputable def Rx (Γ : Gam) (env : Env) (l : List Env) (g : Heap) (s : Shared) (O : Own) (Q : Own → Prop) (e : Value) (s' : Shared) : Prop :=
  Flt Γ (env :: l) (fun b => b = env.locals) g s O Q e s' ∨ Mde Γ env g s O Q e s'
theorem Gs.nil {env : Env} {g g' : Heap} {s s' : Shared} {ρ' κ' : Rho} {O O' : Own} (G : Gs Γ env g s [] O g' s' ρ' κ' O') : κ' = [] := List.map_eq_nil_iff.mp G.ks
theorem Rx.pre {l : List Env} {env : Env} {g g₁ : Heap} {s s₁ s' : Shared} {ρ₁ κ₁ : Rho} {O O₁ : Own} {Q : Own → Prop} {e : Value} (k : Stk (env :: l) g s.heap O) (G : Gs Γ env g s [] O g₁ s₁ ρ₁ κ₁ O₁) (h : Rx Γ env l g₁ s₁ O₁ Q e s') : Rx Γ env l g s O Q e s' := by
  rcases h with h | ⟨a, h, vs, g', ρ', O', h1, h2, h3, h4⟩
  · exact .inl (h.preS k G)
  · have := G.nil
    subst this
    exact .inr ⟨a, h, vs, g', ρ', O', h1, G.trans h2, h3, h4⟩

theorem Rx.leave {A : Around} {l : List Env} {env : Env} {g₁ : Heap} {s₁ s₂ s' : Shared} {ρ : Rho} {O₁ : Own} {Q : Own → Prop} {e : Value} {R : Shared → Prop} {E : Value → Shared → Prop}
    (hA : A.frames = some l) (k : Stk l g₁ s₁.heap O₁) (hf : env.frame = some env.locals) (hkd : env.scope.kind = .function) (B : Begun Γ env g₁ s₁ O₁ ρ [] s₂) (h : Rx Γ env l g₁ s₂ O₁ Q e s')
    (hR : ∀ s'', Flt Γ l (fun _ => False) g₁ s₁ O₁ Q e s'' → R s'') : wpAny Γ.M (A.deeper env) (leaving env e) (fun _ s'' => R s'') E s' := by
  have hfr := Around.frames_deeper (env := env) hA
  have hne : ∀ b ∈ frs l, b ≠ env.locals := fun b hb z => by
    obtain ⟨_, _, o, ho, _⟩ := k.at hb
    rw [z, B.loc] at ho; cases ho
  have k₂ : Stk (env :: l) g₁ s₂.heap O₁ := fun x hx => by
    rcases List.mem_cons.mp hx with rfl | hx
    · obtain ⟨m, hm, _⟩ := B.fr.loc
      exact ⟨hkd, hf, B.fr.gl, B.fr.lo, ns_obj hm⟩
    · obtain ⟨h1, h2, h3, h4, o, h5, h6⟩ := k x hx
      exact ⟨h1, h2, h3, h4, o, B.to.pres _ _ h5 id, h6⟩
  have toX : ∀ {g' : Heap} {s₃ : Shared}, To g₁ s₂ (fun b => b = env.locals ∨ dom O₁ b ∨ b ∈ frs (env :: l)) g' s₃ → To g₁ s₁ (fun b => False ∨ dom O₁ b ∨ b ∈ frs l) g' s₃ := fun {g' s₃} t =>
    To.trans (B.to.weak (Y := fun b => False ∨ dom O₁ b ∨ b ∈ frs l) fun _ z => z.elim) t fun b z => by
      rcases z with z | z | z
      · exact .inr (z ▸ B.loc)
      · exact .inl (.inr (.inl z))
      · unfold frs at z
        rw [List.filterMap_cons, hf] at z
        rcases List.mem_cons.mp z with z | z
        · exact .inr (z ▸ B.loc)
        · exact .inl (.inr (.inr z))
  have wiX : ∀ {O' : Own}, Wi O₁ O' s₂.heap → Wi O₁ O' s₁.heap := fun w b hb => (w b hb).imp id fun z => by
    cases q : s₁.heap.get? b with
    | none => rfl
    | some o => rw [B.to.pres _ _ q id] at z; cases z
  rcases h with ⟨B', a, t, g', O', h1, h2, h3, h4, h5, h6, h7⟩ | ⟨a, h, vs, g', ρ', O', h1, h2, h3, h4⟩
  · subst h1
    refine wpAny_leaves_onW hfr hf h2 fun h' x1 x2 => hR _ ⟨B', a, t, g', O', rfl, x1, h3, toX h4, wiX h5, fun b hb _ o ho => ?_, h7⟩
    obtain ⟨_, _, o', ho', hnf⟩ := k.at hb
    rw [ho] at ho'
    cases ho'
    obtain ⟨sl, hs⟩ := h6 b (by unfold frs; rw [List.filterMap_cons, hf]; exact .tail _ hb) (hne b hb) o (B.to.pres _ _ ho id)
    have x5 := x2 b _ hs hnf
    exact x5
  · subst h1
    have k₃ := k₂.gs (fun x hx z => hne x.locals (List.mem_filterMap.mpr ⟨x, hx, (k x hx).2.1⟩) z) h2
    refine wpAny_leaves_madeW (base := hideAll h (frs (env :: l))) hfr hf (fun b o q => of_hideAll _ q) k₃.frames h3 fun h' t x1 x2 x3 x4 => hR _ ⟨_, a, t, g', O', rfl, x1, ?_, ?_, ?_, fun b hb _ o ho => ?_, h4⟩
    · have keep : ∀ b o, h.get? b = some o → b ∉ frs (env :: l) → (hideAll h (frs (env :: l))).get? b = some o := fun b o q n => hideAll_get _ q n
      refine ⟨fun b o q => keep b o (h2.ok.keep _ _ q) fun z => ?_, h2.ok.gam, fun p hp => ?_, h2.ok.nd, h2.ok.gens, h2.ok.os⟩
      · rw [(k₃.at z).1] at q; cases q
      · obtain ⟨z1, z2⟩ := h2.ok.own p hp
        obtain ⟨o, ho⟩ := z1.there
        exact ⟨z1.same ((keep _ _ ho fun z => (k₃.at z).2.1 (List.mem_map_of_mem (f := (·.1)) hp)).trans ho.symm), z2⟩
    · refine toX ⟨fun b o q n => hideAll_get _ (h2.to.pres b o q fun z => n ?_) fun z => n (.inr (.inr z)), h2.to.up, fun b o q n => (h2.to.new b o q n).imp id fun z => ?_⟩
      · rcases z with z | z | z
        · exact .inl z
        · exact (no_isCell z).elim
        · exact .inr (.inl z)
      · rcases z with z | z | z
        · exact .inl z
        · exact (no_isCell z).elim
        · exact .inr (.inl z)
    · exact wiX h2.wi
    · obtain ⟨_, h4', o', ho', hnf⟩ := k.at hb
      rw [ho] at ho'
      cases ho'
      have e1 : h.get? b = some o := h2.to.pres _ _ (B.to.pres _ _ ho id) fun z => by
        rcases z with z | z | z
        · exact hne b hb z
        · exact no_isCell z
        · exact h4' z
      exact x4 b _ (h3.keeps _ _ e1) hnf
end
end Lw
end
section
namespace Lw
open PySem PySem.Calls PyProof.Rows PySem.W

noncomputable abbrev no : Addr → Prop := fun _ => False
noncomputable def CalR (Γ : Gam) (n : Nat) (f : Value) (ds : List D) (kws : List (Str × D)) (O : Own) (Q : Own → Prop) : Prop :=
  ∀ A l g s vs ks, A.frames = some l → Room A n → Okb Γ g s O → Stk l g s.heap O → InL g vs ds → InL g ks (kws.map (·.2)) →
    codeAny Γ.M A (.call f ⟨vs, (kws.map (·.1)).zip ks⟩) (fun r s' => match r with | .ok _ => False | .error e => Flt Γ l no g s O Q e s') s
noncomputable def CaR (Γ : Gam) (A : Around) (l : List Env) (O : Own) (f : Value) (ds : List D) (kws : List (Str × D)) (Q : Own → Prop) : Prop :=
  ∀ g s vs ks, Okb Γ g s O → Stk l g s.heap O → InL g vs ds → InL g ks (kws.map (·.2)) → wpAny Γ.M A (call f vs ((kws.map (·.1)).zip ks)) (fun _ _ => False) (Flt Γ l no g s O Q) s
noncomputable def EvR (Γ : Gam) (A : Around) (env : Env) (l : List Env) (ρ : Rho) (O : Own) (e : Expr) (Q : Own → Prop) : Prop :=
  ∀ g s, Okb Γ g s O → Frm env g s.heap O ρ [] → Stk (env :: l) g s.heap O → wpAny Γ.M A (eval e env) (fun _ _ => False) (Flt Γ (env :: l) no g s O Q) s
noncomputable def EvsR (Γ : Gam) (A : Around) (env : Env) (l : List Env) (ρ : Rho) (O : Own) (es : List Expr) (Q : Own → Prop) : Prop :=
  ∀ pos g s, Okb Γ g s O → Frm env g s.heap O ρ [] → Stk (env :: l) g s.heap O → wpAny Γ.M A (spliced (backTo pos (starEach es env))) (fun _ _ => False) (Flt Γ (env :: l) no g s O Q) s
noncomputable def ExsR (Γ : Gam) (A : Around) (env : Env) (l : List Env) (ρ : Rho) (O : Own) (t : Sem Flow) (Q : Own → Prop) : Prop :=
  ∀ g s, Okb Γ g s O → Frm env g s.heap O ρ [] → Stk (env :: l) g s.heap O → (∀ e ∈ l, e.locals ≠ env.locals) → wpAny Γ.M A t (fun _ _ => False) (Rx Γ env l g s O Q) s
noncomputable abbrev SsR (Γ : Gam) (A : Around) (env : Env) (l : List Env) (ρ : Rho) (O : Own) (ss : List Stmt) (Q : Own → Prop) : Prop := ExsR Γ A env l ρ O (execs ss env) Q
noncomputable abbrev S1R (Γ : Gam) (A : Around) (env : Env) (l : List Env) (ρ : Rho) (O : Own) (st : Stmt) (Q : Own → Prop) : Prop := ExsR Γ A env l ρ O (exec st env) Q

section
variable {Γ : Gam} {A : Around} {env : Env} {l : List Env} {ρ : Rho} {O : Own} {Q : Own → Prop}
theorem CalR.ca {n : Nat} {f : Value} {ds : List D} {kws : List (Str × D)} (h : CalR Γ n f ds kws O Q) (hA : A.frames = some l) (r : Room A n) : CaR Γ A l O f ds kws Q := fun g s vs ks ok k i j =>
  wpAny_call (codeAny_mono (h A l g s vs ks hA r ok k i j) fun r s' x => by
    rcases r with e | f
    · exact x
    · exact x.elim)
theorem noQ {M : Model} {α : Type} {t : Sem α} {E : Value → Shared → Prop} {Q : α → Shared → Prop} {s : Shared} (h : wpAny M A t (fun _ _ => False) E s) : wpAny M A t Q E s := wpAny_mono h (fun _ _ e => e.elim) fun _ _ x => x
theorem ExsR.consR {st : Stmt} {rest : List Stmt} (h : S1R Γ A env l ρ O st Q) : SsR Γ A env l ρ O (st :: rest) Q := fun g s ok F k ap => wpAny_execs_cons (noQ (h g s ok F k ap))
theorem ExsR.consN {st : Stmt} {rest : List Stmt} (h : S1 Γ A env ρ [] O st fun f ρ₁ κ₁ O₁ => match f with | .next => SsR Γ A env l ρ₁ O₁ rest Q | _ => False) : SsR Γ A env l ρ O (st :: rest) Q := fun g s ok F k ap =>
  wpAny_execs_cons (noE (Fx.use (h g s ok F) (fun v s₁ g₁ ρ₁ κ₁ O₁ f G hf q => by
    cases hf with
    | next =>
      have hκ := G.nil
      subst hκ
      exact wpAny_mono (q g₁ s₁ G.ok G.fr (k.gs ap G) ap) (fun _ _ e => e.elim) fun e s' x => x.pre k G
    | brk => exact q.elim
    | cont => exact q.elim
    | ret a => exact q.elim)))
theorem Flt.rx {g : Heap} {s s' : Shared} {e : Value} (h : Flt Γ (env :: l) no g s O Q e s') : Rx Γ env l g s O Q e s' := .inl (h.mono (fun _ z => z.elim) fun _ q => q)
theorem ExsR.as {x : Str} {p1 pos : Pos} {value : Expr} (h : EvR Γ A env l ρ O value Q) (hs : swapsWith value (some (.Name x p1)) pos.line env = pure false) : S1R Γ A env l ρ O (.Assign [.Name x p1] value pos) Q := fun g s ok F k ap =>
  wpAny_Assign_Name (wpAny_mono (h g s ok F k) (fun _ _ e => e.elim) fun _ _ x => x.rx) hs
theorem ExsR.expr {e : Expr} {pos : Pos} (h : EvR Γ A env l ρ O e Q) (hi : interactive env = false) (hs : swapsWith e none pos.line env = pure false) : S1R Γ A env l ρ O (.Expr e pos) Q := fun g s ok F k ap =>
  wpAny_Expr_any (wpAny_mono (h g s ok F k) (fun _ _ e => e.elim) fun _ _ x => x.rx) hi hs
theorem ExsR.ite {test : Expr} {body orelse : List Stmt} {pos : Pos} (h : Te Γ A env ρ [] O test fun b O₁ => if b then SsR Γ A env l ρ O₁ body Q else SsR Γ A env l ρ O₁ orelse Q) : S1R Γ A env l ρ O (.If test body orelse pos) Q := fun g s ok F k ap =>
  wpAny_If (noE (T.use (h g s ok F) (fun b s₁ g₁ O₁ d G₁ i q => by
    subst i
    cases b <;> exact wpAny_mono (q g₁ s₁ G₁.ok (F.go G₁) (k.go G₁) ap) (fun _ _ e => e.elim) fun e s' x => x.pre k (.ofGo F G₁))))
theorem ExsR.raise {x : Str} {np cpos pos : Pos} {e₀ : Expr} {rest : List Expr} (hh : A.handled = none) (h : Ev Γ A env ρ [] O (.Name x np) fun d O₁ => d = .v VE ∧ Evs Γ A env ρ [] O₁ (e₀ :: rest) fun ds O₂ => ds.length ≤ sizeLine ∧ Q O₂)
    (he : starEach (e₀ :: rest) env = (false, eval e₀ env) :: starEach rest env) (hplain : (backTo cpos (starEach rest env)).any (·.1) = false) : S1R Γ A env l ρ O (.Raise (some (.Call (.Name x np) (e₀ :: rest) [] cpos)) none pos) Q := fun g s ok F k ap =>
  Raise_madeB PySem.F.excCall_ValueError PySem.F.excRaise_ValueError hh (noE (T.use (h g s ok F) (fun v s₁ g₁ O₁ d G₁ i ⟨e1, h₁⟩ => by
    subst e1
    cases i
    refine ⟨rfl, noE (T.use (h₁ cpos g₁ s₁ G₁.ok (F.go G₁)) (fun vs s₂ g₂ O₂ ds G₂ is ⟨hl, q⟩ => ⟨by rw [is.length]; exact hl, fun h' e hx => .inr ⟨e, s₂.heap, vs, g₂, ρ, O₂, rfl, ?_, hx.of, q⟩⟩))⟩
    exact .ofGo F (G₁.trans G₂)))) he hplain
end
end Lw
end
section
namespace Lw
open PySem PySem.Calls PyProof.Rows PySem.W
section
variable {Γ : Gam} {A : Around} {env : Env} {l : List Env} {ρ : Rho} {O : Own} {Q : Own → Prop}
theorem EvR.meth {o : Expr} {name : Str} {apos pos : Pos} {args : List Expr} (h : Ev Γ A env ρ [] O o fun d O₁ => GetM Γ A O₁ name d fun f fd O₂ => Kp Γ f ∧ Evs Γ A env ρ [] O₂ args fun ds O₃ => CaR Γ A (env :: l) O₃ f (fd ++ ds) [] Q)
    (hm : MethForm o name apos pos args [] env) (hp : NoStar env args) : EvR Γ A env l ρ O (.Call (.Attribute o name apos) args [] pos) Q := fun g s ok F k => by
  obtain ⟨pl, he⟩ := hm
  rw [he]
  refine wpAny_bind (noE (T.use (h g s ok F) (fun v s₁ g₁ O₁ d G₁ i h₁ => wpAny_bind (wpAny_standAt (wpAny_bind (wpAny_holding (noE (M.use (h₁ pl g₁ s₁ v G₁.ok i) (fun fx s₂ g₂ O₂ fd G₂ ifd hq9 => ?_)))))))))
  obtain ⟨hk, h₂⟩ := hq9
  have Gb := G₁.trans G₂
  refine callKp hk (hp pos) (noE (T.use (h₂ pos g₂ s₂ G₂.ok (F.go Gb)) (fun vs s₃ g₃ O₃ ds G₃ is q => ⟨G₃.ok.kin, ?_⟩)))
  have Gc := Gb.trans G₃
  exact wpAny_mono (q g₃ s₃ (fx.2 ++ vs) [] G₃.ok (k.go Gc) ((ifd.up G₃.to.up).append is) .nil) (fun _ _ e => e.elim) fun _ _ x => x.pre k Gc
theorem EvR.methArgs {o : Expr} {name : Str} {apos pos : Pos} {args : List Expr} (h : Ev Γ A env ρ [] O o fun d O₁ => GetM Γ A O₁ name d fun f fd O₂ => Kp Γ f ∧ EvsR Γ A env l ρ O₂ args Q)
    (hm : MethForm o name apos pos args [] env) (hp : NoStar env args) : EvR Γ A env l ρ O (.Call (.Attribute o name apos) args [] pos) Q := fun g s ok F k => by
  obtain ⟨pl, he⟩ := hm
  rw [he]
  refine wpAny_bind (noE (T.use (h g s ok F) (fun v s₁ g₁ O₁ d G₁ i h₁ => wpAny_bind (wpAny_standAt (wpAny_bind (wpAny_holding (noE (M.use (h₁ pl g₁ s₁ v G₁.ok i) (fun fx s₂ g₂ O₂ fd G₂ ifd hq9 => ?_)))))))))
  obtain ⟨hk, h₂⟩ := hq9
  have Gb := G₁.trans G₂
  exact callKp hk (hp pos) (wpAny_mono (h₂ pos g₂ s₂ G₂.ok (F.go Gb) (k.go Gb)) (fun vs s₃ e => e.elim) fun _ _ x => x.pre k Gb)
theorem EvsR.head {e : Expr} {rest : List Expr} (h : EvR Γ A env l ρ O e Q) (he : starEach (e :: rest) env = (false, eval e env) :: starEach rest env) : EvsR Γ A env l ρ O (e :: rest) Q := fun pos g s ok F k => by
  rw [he]
  exact spliced_cons (wpAny_mono (h g s ok F k) (fun _ _ e => e.elim) fun _ _ x => x)
theorem EvsR.tail {e : Expr} {rest : List Expr} (h : Ev Γ A env ρ [] O e fun d O₁ => EvsR Γ A env l ρ O₁ rest Q) (he : starEach (e :: rest) env = (false, eval e env) :: starEach rest env) : EvsR Γ A env l ρ O (e :: rest) Q := fun pos g s ok F k => by
  rw [he]
  exact spliced_cons (noE (T.use (h g s ok F) (fun v s₁ g₁ O₁ d G₁ i h₁ => wpAny_mono (h₁ pos g₁ s₁ G₁.ok (F.go G₁) (k.go G₁)) (fun _ _ e => e.elim) fun _ _ x => x.pre k G₁)))
theorem EvR.tup {elts : List Expr} {n : Nat} {pos : Pos} (h : EvsR Γ A env l ρ O elts Q) : EvR Γ A env l ρ O (.Tuple elts n pos) Q := fun g s ok F k =>
  Tuple_ (wpAny_mono (h pos g s ok F k) (fun _ _ e => e.elim) fun _ _ x => x)
theorem EvR.methK {o : Expr} {name : Str} {apos pos : Pos} {a1 : Expr} {args : List Expr} {kws : List Keyword} {ks : List Str}
    (h : Ev Γ A env ρ [] O o fun d O₁ => GetM Γ A O₁ name d fun f fd O₂ => Kp Γ f ∧ Evs Γ A env ρ [] O₂ (a1 :: args) fun ds O₃ => EvK Γ A env ρ [] O₃ kws fun kd O₄ => kd.length = ks.length ∧ CaR Γ A (env :: l) O₄ f (fd ++ ds) (ks.zip kd) Q)
    (hm : MethForm o name apos pos (a1 :: args) kws env) (hp : NoStar env (a1 :: args)) (hk1 : ∀ pos, (backToKw pos (keywordEach kws env)).any (·.1.isNone) = false) (hk2 : ∀ pos, (backToKw pos (keywordEach kws env)).all (·.1.isSome) = true) (hk3 : ∀ pos, (backToKw pos (keywordEach kws env)).filterMap (·.1) = ks)
    (hf : ∀ pos, ∃ x rest, backTo pos (starEach (a1 :: args) env) = (false, x) :: rest) : EvR Γ A env l ρ O (.Call (.Attribute o name apos) (a1 :: args) kws pos) Q := fun g s ok F k => by
  obtain ⟨pl, he⟩ := hm
  rw [he]
  refine wpAny_bind (noE (T.use (h g s ok F) (fun v s₁ g₁ O₁ d G₁ i h₁ => wpAny_bind (wpAny_standAt (wpAny_bind (wpAny_holding (noE (M.use (h₁ pl g₁ s₁ v G₁.ok i) (fun fx s₂ g₂ O₂ fd G₂ ifd hq9 => ?_)))))))))
  obtain ⟨hk, h₂⟩ := hq9
  have Gb := G₁.trans G₂
  refine callWith_of (P := Γ.K.In) (by rw [hp pos, hk1 pos]; rfl) hk ?_
  have h₃ := h₂ pos g₂ s₂ Gb.ok (F.go Gb)
  obtain ⟨x, rest, e⟩ := hf pos
  unfold T at h₃
  rw [e] at h₃ ⊢
  refine evalArgs_kw (hk2 pos) (noE (T.use h₃ (fun vs s₃ g₃ O₃ ds G₃ is h₄ => ?_)))
  refine noE (T.use (h₄ pos g₃ s₃ G₃.ok (F.go (Gb.trans G₃))) (fun kvs s₄ g₄ O₄ kd G₄ ik hq9 => ?_))
  obtain ⟨hl, q⟩ := hq9
  refine ⟨G₄.ok.kin, ?_⟩
  have hz1 : (ks.zip kd).map (·.1) = ks := by rw [List.map_fst_zip]; exact om_165 hl
  have hz2 : (ks.zip kd).map (·.2) = kd := by rw [List.map_snd_zip]; exact om_166 hl
  have Gd := Gb.trans (G₃.trans G₄)
  have := q g₄ s₄ (fx.2 ++ vs) kvs G₄.ok (k.go Gd) ((ifd.up (G₃.trans G₄).to.up).append (is.up G₄.to.up)) (by rw [hz2]; exact ik)
  rw [hz1] at this
  show wpAny _ _ (PySem.call fx.1 (fx.2 ++ vs) (((backToKw pos (keywordEach kws env)).filterMap (·.1)).zip kvs)) _ _ _
  rw [hk3 pos]
  exact wpAny_mono this (fun _ _ e => e.elim) fun _ _ x => x.pre k Gd

theorem CalR.intro {n : Nat} {f : Addr} {ds : List D} {kws : List (Str × D)} {oc : Value} {od : Option Addr} {osl : Array (Option Value)} {fd : FuncData} {body : List Stmt} {params : List Str} {bds : List D} (ρ₀ : Rho)
    (hk : Γ.K.lookup f = some ⟨oc, od, .func fd, osl⟩) (hcd : codeIn Γ.K fd.code fd.qualname = true) (hb : fd.body = .stmts body)
    (hfix : fd.closure = [] ∧ fd.globals = mainGlobals ∧ fd.builtins = builtinsNs ∧ fd.scope.isCoroutine = false ∧ fd.scope.isGenerator = false ∧ fd.scope.kind = .function)
    (hbind : ∀ g s vs ks, Okb Γ g s O → InL g vs ds → InL g ks (kws.map (·.2)) → ∃ bvs, BindsTo s fd ⟨vs, (kws.map (·.1)).zip ks⟩ (params.zip bvs) ∧ InL g bvs bds)
    (hdb : (fd.scope.names.all fun x => (!(x.2 == .local) && !(x.2 == .cell)) || (!(x.1 == ("__debug__" : Str)) && !(x.1 == ("__classdict__" : Str)))) = true) (hn : (fd.scope.names.map (·.1)).Nodup) (hp : params.Nodup) (hpk : ∀ p ∈ params, (p, NameKind.local) ∈ fd.scope.names ∨ (p, NameKind.cell) ∈ fd.scope.names)
    (hρ : rho0 fd.scope.names (params.zip bds) = ρ₀) (hκ : kap0 fd.scope.names (params.zip bds) = [])
    (h : ∀ A L l, A.frames = some (callEnvC fd L f :: l) → Room A n → SsR Γ A (callEnvC fd L f) l ρ₀ O body Q) :
    CalR Γ (n + 1) (.ref f) ds kws O Q := fun A l g s vs ks hA room ok k iv ik => by
  subst hρ
  obtain ⟨bvs, hB, ib⟩ := hbind g s vs ks ok iv ik
  have hkd : fd.scope.kind = .function := hfix.2.2.2.2.2
  refine callRun (show A.depth < recursionLimit by have := room.d; unfold recursionLimit; exact om_178 this) ok hk hcd hb hfix hdb hn hp hpk (hB _ _ _ _ ⟨g, O, bvs, bds, rfl, .refl ok, ib, fun L s₂ B => ?_⟩)
  rw [hκ] at B
  have ne : ∀ e ∈ l, e.locals ≠ (callEnvC fd L f).locals := fun e he z => by
    obtain ⟨_, _, _, _, o, ho, _⟩ := k e he
    rw [z, B.loc] at ho; cases ho
  have k₂ : Stk (callEnvC fd L f :: l) g s₂.heap O := fun x hx => by
    rcases List.mem_cons.mp hx with rfl | hx
    · obtain ⟨m, hm, _⟩ := B.fr.loc
      exact ⟨hkd, rfl, B.fr.gl, B.fr.lo, ns_obj hm⟩
    · obtain ⟨h1, h2, h3, h4, o, h5, h6⟩ := k x hx
      exact ⟨h1, h2, h3, h4, o, B.to.pres _ _ h5 id, h6⟩
  refine codeAny_func (wpAny_mono (h _ L l (Around.frames_deeper hA) room.deep g s₂ B.ok B.fr k₂ ne) (fun _ _ e => e.elim) fun e s' x => ?_)
  exact x.leave hA k rfl hkd B fun s'' y => y
theorem Stk.left {g h : Heap} {O P : Own} (k : Stk l g h (O ++ P)) : Stk l g h O := fun e he => by
  obtain ⟨h1, h2, h3, h4, h5⟩ := k e he
  exact ⟨h1, h2, h3, fun x => h4 (by show e.locals ∈ (O ++ P).map (·.1); rw [List.map_append]; exact List.mem_append_left _ x), h5⟩
theorem Flt.frame {X : Addr → Prop} {g : Heap} {s s' : Shared} {P : Own} {Q' : Own → Prop} {e : Value} (ok : Okb Γ g s (O ++ P)) (k : Stk l g s.heap (O ++ P)) (hX : ∀ p ∈ P, ¬ X p.1) (h : Flt Γ l X g s O Q e s') (q : ∀ O', Q O' → Q' (O' ++ P)) : Flt Γ l X g s (O ++ P) Q' e s' := by
  obtain ⟨B, a, t, g', O', h1, h2, h3, h4, h5, h6, h7⟩ := h
  have nd := ok.nd
  rw [List.map_append] at nd
  obtain ⟨n1, n2, n3⟩ := List.nodup_append.mp nd
  have off : ∀ p ∈ P, ¬ dom O p.1 := fun p hp x => n3 _ x _ (List.mem_map_of_mem hp) rfl
  have inP : ∀ p ∈ P, dom (O ++ P) p.1 := fun p hp => by show p.1 ∈ (O ++ P).map (·.1); exact List.mem_map_of_mem (f := (·.1)) (List.mem_append_right _ hp)
  have offX : ∀ p ∈ P, ¬ (X p.1 ∨ dom O p.1 ∨ p.1 ∈ frs l) := fun p hp x => by
    rcases x with x | x | x
    · exact hX p hp x
    · exact off p hp x
    · exact (k.at x).2.1 (inP p hp)
  have okB : Okb Γ g' { s' with heap := B } (O' ++ P) := by
    refine ⟨h3.keep, h3.gam, fun p hp => ?_, ?_, h3.gens, h3.os⟩
    · rcases List.mem_append.mp hp with z | z
      · exact h3.own p z
      · obtain ⟨a1, b1⟩ := ok.own p (List.mem_append_right _ z)
        obtain ⟨o, ho⟩ := a1.there
        exact ⟨(a1.same (by rw [h4.pres _ _ ho (offX p z), ho])).up h4.up, h4.none ho (offX p z) b1⟩
    · rw [List.map_append]
      refine List.nodup_append.mpr ⟨h3.nd, n2, fun a ha b hb e => ?_⟩
      subst e
      obtain ⟨p, hp, rfl⟩ := List.mem_map.mp hb
      rcases h5 _ ha with z | z
      · exact off p hp z
      · obtain ⟨o, ho⟩ := (ok.own p (List.mem_append_right _ hp)).1.there
        rw [ho] at z; cases z
  refine ⟨B, a, t, g', O' ++ P, h1, h2, okB, h4.weak fun b x => .inl ?_, fun b x => ?_, h6, q _ h7⟩
  · rcases x with x | x | x
    · exact .inl x
    · exact .inr (.inl (by show b ∈ (O ++ P).map (·.1); rw [List.map_append]; exact List.mem_append_left _ x))
    · exact .inr (.inr x)
  · have x : b ∈ (O' ++ P).map (·.1) := x
    rw [List.map_append] at x
    rcases List.mem_append.mp x with z | z
    · exact (h5 b z).imp (fun z => by show b ∈ (O ++ P).map (·.1); rw [List.map_append]; exact List.mem_append_left _ z) id
    · exact .inl (by show b ∈ (O ++ P).map (·.1); rw [List.map_append]; exact List.mem_append_right _ z)
theorem CalR.frame {n : Nat} {f : Value} {ds : List D} {kws : List (Str × D)} {P : Own} {Q' : Own → Prop} (h : CalR Γ n f ds kws O Q) (q : ∀ O', Q O' → Q' (O' ++ P)) : CalR Γ n f ds kws (O ++ P) Q' := fun A l g s vs ks hA r ok k i j =>
  codeAny_mono (h A l g s vs ks hA r ok.left k.left i j) fun r s' x => by
    rcases r with e | f
    · exact Flt.frame ok k (fun _ _ z => z) x q
    · exact x.elim
theorem CalR.pure {n : Nat} {f : Value} {ds : List D} {kws : List (Str × D)} {Q' : Own → Prop} (h : CalR Γ n f ds kws [] Q) (q : ∀ O', Q O' → O' = [] ∧ Q' O) : CalR Γ n f ds kws O Q' :=
  CalR.frame (O := []) (P := O) h fun O' x => by
    rw [(q O' x).1]; exact (q O' x).2
end
end Lw
end
section
namespace Lw
open PySem PySem.Calls PyProof.Rows PySem.W
theorem noBool_match : typeLookup (.type "re.Match") "__bool__" = pure none := by rw [typeLookup_type, builtinLookup_eq_fast]; kernel_rfl
theorem noLen_match : typeLookup (.type "re.Match") "__len__" = pure none := by rw [typeLookup_type, builtinLookup_eq_fast]; kernel_rfl
noncomputable def sreHits : Nat → Sre.M → Bool
  | 0, _ => false
  | k + 1, m => match (m.runFor Builtin.Re.reTurnSteps).outcome with
    | some .matched => true
    | some _ => false
    | none => sreHits k (m.runFor Builtin.Re.reTurnSteps)
section
variable {M : Model} {A : Around} {E : Value → Shared → Prop} {s : Shared}
theorem driveHit {Q : Sre.M → Shared → Prop} : ∀ (k turns : Nat) (m : Sre.M), k ≤ turns → sreHits k m = true → (∀ m', m'.outcome = some .matched → Q m' s) → wpAny M A (Builtin.Re.reDrive turns m) Q E s
  | 0, _, m, _, h, _ => by cases h
  | k + 1, 0, m, hk, _, _ => by exact (om_162 hk).elim
  | k + 1, turns + 1, m, hk, h, hQ => by
    unfold sreHits at h
    unfold Builtin.Re.reDrive
    dsimp only
    cases q : (m.runFor Builtin.Re.reTurnSteps).outcome with
    | none =>
      rw [q] at h
      rw [if_neg (by simp)]
      exact wpAny_bind (wpAny_rule (driveHit k turns _ (by exact om_163 hk) h hQ))
    | some o =>
      rw [q] at h
      rw [if_pos (by simp)]
      cases o with
      | matched => exact wpAny_pure (hQ _ q)
      | _ => cases h
theorem search_hits {prog : Program} {w : World} {Q : Value → Shared → Prop} {p c : Addr} {x : Str} {t : Tok} {v0 v1 : Value} {t1 t2 : Tok} {vs : Array Value} {n k : Nat} {cls : Value} (hp : s.heap.get? p = some { cls := .type "re.Pattern", data := .fields #[v0, v1, .int 0 t1, .none, .none, .ref c, .int 0 t2] })
    (hc : s.heap.get? c = some { cls := cls, data := .seq vs n }) (hx : x.cps.size ≤ 1000000) (hk : k ≤ 1000000)
    (hf : sreHits k (Sre.forSearch ((vs.map Builtin.Re.reRawOf).map (·.toNat)) x.cps 0 0 x.cps.size false) = true)
    (h : ∀ o h' m, Sub s.heap h' → h'.get? m = some o → o.cls = .type "re.Match" → Q (.ref m) { s with heap := h' }) : wpAny (model prog w) A (call (.builtin "re.Pattern.search") [.ref p, .str x t]) Q E s := by
  refine wpAny_call_entry slot_search ⟨_, hp, rfl⟩ entry_search ?_ (args_search _ _)
  show wpAny _ _ (Builtin.Re.reTarget "re.Pattern.search" "search" ⟨[.ref p, .str x t], []⟩ >>= _) _ _ s
  refine wpAny_bind ?_
  unfold Builtin.Re.reTarget
  refine wpAny_bind (wpAny_of_eq (a := [some (.str x t), none, none]) (by kernel_rfl) ?_)
  refine wpAny_bind (wpAny_pure (wpAny_bind (wpAny_pure (wpAny_bind (wpAny_fieldsOf hp rfl ?_)))))
  refine wpAny_bind (wpAny_of_eq (a := (x.cps, 0)) (by kernel_rfl) ?_)
  show wpAny _ _ (Builtin.Re.reNoCollectionInside (.str x t) 0 >>= _) _ _ s
  refine wpAny_bind (wpAny_pure ?_)
  show wpAny _ _ (Builtin.Re.reRawItems (.ref c) >>= _) _ _ s
  refine wpAny_bind ?_
  unfold Builtin.Re.reRawItems
  refine wpAny_bind (wpAny_seqItems hc rfl (wpAny_pure (wpAny_pure ?_)))
  dsimp only [Option.getD_some]
  unfold Builtin.Re.reAnswer Builtin.Re.reRunToEnd
  have e1 : min ((2 ^ 63 - 1 : Int)).toNat x.cps.size = x.cps.size := Nat.min_eq_right (by have : ((2 ^ 63 - 1 : Int)).toNat = 9223372036854775807 := by decide
                                                                                           exact om_164 hx this)
  have e0 : min ((0 : Int)).toNat x.cps.size = 0 := by simp
  refine wpAny_bind (wpAny_bind (driveHit k _ _ (Nat.le_trans hk (by decide)) ?_ fun m' hm => ?_))
  · show sreHits k (Sre.forSearch _ x.cps 0 (min ((0 : Int)).toNat x.cps.size) (min ((2 ^ 63 - 1 : Int)).toNat x.cps.size) false) = true
    rw [e0, e1]
    exact hf
  · refine wpAny_bind (wpAny_forIn_list _ (fun _ _ s' => s' = s) _ ?_ ?_ _ _ rfl)
    · rintro i rest b s' rfl
      split
      · exact wpAny_bind (wpAny_rule (wpAny_pure rfl))
      · exact wpAny_pure rfl
    · rintro b s' rfl
      rw [hm]
      refine wpAny_pure ?_
      show wpAny _ _ (Builtin.Re.reNewMatch _ _ 0 _ _ m' >>= _) _ _ _
      unfold Builtin.Re.reNewMatch newFields
      refine wpAny_bind ?_
      dsimp only
      refine wpAny_bind (m := newTuple _) (wpAny_newTuple ?_ (by show 2 ≤ sizeLine; decide))
      refine wpAny_newObj_type ?_
      refine wpAny_pure ⟨_, rfl, h _ _ _ (fun b o e => Heap.get?_push_of_some _ (Heap.get?_push_of_some _ e)) (Heap.get?_push_size _ rfl) rfl⟩
theorem truthy_match {m : Addr} {Q : Bool → Shared → Prop} (hT : s.TypeIs (.ref m) "re.Match") (h : Q true s) : wpAny M A (truthy (.ref m)) Q E s := by
  unfold truthy
  first
    | refine wpAny_bind (wpAny_callSpecial?_none (name := Str.ofString "__bool__") hT noBool_match ?_)
    | refine wpAny_bind (wpAny_pure (wpAny_bind (wpAny_callSpecial?_none (name := Str.ofString "__bool__") hT noBool_match ?_)))
  first
    | refine wpAny_bind (wpAny_specialOf (name := Str.ofString "__len__") hT noLen_match ?_)
    | refine wpAny_bind (wpAny_pure (wpAny_bind (wpAny_specialOf (name := Str.ofString "__len__") hT noLen_match ?_)))
  exact wpAny_pure h
end
section
variable {Γ : Gam} {A : Around} {env : Env} {ρ κ : Rho} {O : Own}
noncomputable def isHit (code : Array Nat) (x : Str) : Bool := decide (x.cps.size ≤ 1000000) && sreHits 3000 (Sre.forSearch code x.cps 0 0 x.cps.size false)
noncomputable def CaB (Γ : Gam) (A : Around) (O : Own) (f : Value) (ds : List D) (Q : Bool → Own → Prop) : Prop :=
  ∀ g s vs, Okb Γ g s O → InL g vs ds → wpAny Γ.M A (call f vs) (fun v s' => ∃ g' O', Go Γ g s O g' s' O' ∧ T Γ A (truthy v) (fun _ b c => b = c) g' s' O' Q) (fun _ _ => False) s
theorem CaB.hit {p : Addr} {code : Array Nat} {x : Str} {Q : Bool → Own → Prop} (h : PatAt Γ p code) (hn : isHit code x = true) (q : Q true O) : CaB Γ A O (.builtin "re.Pattern.search") [.v (.ref p), .str x] Q := fun g s vs ok iv => by
  obtain ⟨v, w, rfl, i, j⟩ := iv.two
  cases i; cases j
  obtain ⟨c, v0, v1, t1, t2, cls, vs, n, h1, h2, h3⟩ := h.at_
  unfold isHit at hn
  rw [Bool.and_eq_true] at hn
  refine search_hits (k := 3000) (ok.kin _ _ h1) (ok.kin _ _ h2) (of_decide_eq_true hn.1) (by decide) (by rw [h3]; exact hn.2) fun o h' m hs hm hc => ?_
  have G := Go.sub ok hs s.toks
  exact ⟨g, O, G, truthy_match ⟨_, hm, hc⟩ ⟨g, O, true, .refl G.ok, rfl, q⟩⟩
theorem Te.methB {o : Expr} {name : Str} {apos pos : Pos} {args : List Expr} {Q : Bool → Own → Prop} (h : Ev Γ A env ρ κ O o fun d O₁ => GetM Γ A O₁ name d fun f fd O₂ => Kp Γ f ∧ Evs Γ A env ρ κ O₂ args fun ds O₃ => CaB Γ A O₃ f (fd ++ ds) Q)
    (he : isTrue (.Call (.Attribute o name apos) args [] pos) env (eval (.Call (.Attribute o name apos) args [] pos) env) = (do let v ← eval (.Call (.Attribute o name apos) args [] pos) env; standAt (Expr.Call (.Attribute o name apos) args [] pos).pos; holding [v] (truthy v)))
    (hm : MethForm o name apos pos args [] env) (hp : NoStar env args) : Te Γ A env ρ κ O (.Call (.Attribute o name apos) args [] pos) Q := fun g s ok F => by
  obtain ⟨pl, he'⟩ := hm
  unfold T
  rw [he, he']
  refine wpAny_bind (wpAny_bind (T.use (h g s ok F) (fun v s₁ g₁ O₁ d G₁ i h₁ => wpAny_bind (wpAny_standAt (wpAny_bind (wpAny_holding (M.use (h₁ pl g₁ s₁ v G₁.ok i) (fun fx s₂ g₂ O₂ fd G₂ ifd hq9 => ?_))))))))
  obtain ⟨hk, h₂⟩ := hq9
  have Gb := G₁.trans G₂
  refine callKp hk (hp pos) (T.use (h₂ pos g₂ s₂ G₂.ok (F.go Gb)) (fun vs s₃ g₃ O₃ ds G₃ is q => ⟨G₃.ok.kin, ?_⟩))
  refine wpAny_mono (q g₃ s₃ (fx.2 ++ vs) G₃.ok ((ifd.up G₃.to.up).append is)) (fun v s₄ ⟨g₄, O₄, G₄, ht⟩ => ?_) fun _ _ e => e
  exact wpAny_bind (wpAny_standAt (wpAny_holding (T.after ((Gb.trans G₃).trans G₄) ht)))
end
theorem ExsR.weak {Γ : Gam} {A : Around} {env : Env} {l : List Env} {ρ : Rho} {O O₂ : Own} {t : Sem Flow} {Q : Own → Prop} (hos : OS O₂ O) (h : ExsR Γ A env l ρ O₂ t Q) : ExsR Γ A env l ρ O t Q := fun g s ok F k ap => by
  have G := (Gs.ofGo F (.refl ok)).forget .refl hos
  exact wpAny_mono (h g s G.ok G.fr (k.gs ap G) ap) (fun _ _ e => e.elim) fun e s' x => x.pre k G
end Lw
end
section
namespace Lw
open PySem PySem.Calls PyProof.Rows PySem.W

structure GoF (Γ : Gam) (l : List Env) (g : Heap) (s : Shared) (O : Own) (g' : Heap) (s' : Shared) (O' : Own) : Prop where
  ok : Okb Γ g' s' O'
  to : To g s (fun b => dom O b ∨ b ∈ frs l) g' s'
  wi : Wi O O' s.heap
  sl : ∀ b ∈ frs l, ∀ o, s.heap.get? b = some o → ∃ sl, s'.heap.get? b = some { o with slots := sl }
  fn : ∀ b ∈ frs l, g'.get? b = none ∧ ¬ dom O' b
section
variable {Γ : Gam} {A : Around} {env : Env} {l : List Env} {ρ : Rho} {O : Own} {Q : Own → Prop}
theorem GoF.of {g g' : Heap} {s s' : Shared} {O' : Own} (k : Stk l g s.heap O) (G : Go Γ g s O g' s' O') : GoF Γ l g s O g' s' O' :=
  ⟨G.ok, G.to.weak fun b x => .inl (.inl x), G.wi, fun b hb o ho => ⟨o.slots, G.to.pres _ _ ho (k.at hb).2.1⟩, fun b hb => by
    obtain ⟨h3, h4, _⟩ := (k.go G).at hb
    exact ⟨h3, h4⟩⟩
theorem flying_keeps {B h h' : Heap} {l : List Env} {e : Addr} {cls a0 : Value} (k : Sub h h') (x : Heap.FlyingW B l e cls a0 h) : Heap.FlyingW B l e cls a0 h' := by
  obtain ⟨f1, f2, f3, oe, vs, T, oT, ts, a1, a2, a3, a4, a5, a6, a7, a8⟩ := x
  exact ⟨fun b o q => k b o (f1 b o q), f2, f3.of_keeps fun b o q _ => ⟨o, k b o q, rfl⟩, oe, vs, T, oT, ts, k _ _ a1, a2, a3, a4, a5, a6, k _ _ a7, a8⟩
theorem funFrames_at {B h : Heap} : ∀ {l : List Env}, h.FunFrames B l → ∀ b ∈ frs l, B.get? b = none
  | [], _, b, hb => nomatch hb
  | env :: l, ⟨_, ⟨L, o, hf, hn, _⟩, hr⟩, b, hb => by
    unfold frs at hb
    rw [List.filterMap_cons, hf] at hb
    rcases List.mem_cons.mp hb with z | z
    · rw [z]; exact hn
    · exact funFrames_at hr b z

theorem tryVE {e : Expr} {k0 : Nat} {p1 np p2 p3 hp pos : Pos} {g : Heap} {s₂ : Shared} {Qf : Flow → Shared → Prop} (hA : A.frames = some (env :: l)) (hf : env.frame = some env.locals)
    (hb : Bui Γ "ValueError" VE) (hx : env.kindOf "ValueError" = some .globalImplicit) (hi : interactive env = false) (hs : swapsWith e none p1.line env = pure false)
    (ok : Okb Γ g s₂ O) (F : Frm env g s₂.heap O ρ []) (k : Stk (env :: l) g s₂.heap O) (h : EvR Γ A env l ρ O e Q)
    (hR : ∀ s₃ g' O', GoF Γ (env :: l) g s₂ O g' s₃ O' → Q O' → Qf (.ret (.bool true)) s₃) :
    wpAny Γ.M A (exec (.Try [.Expr e p1] [.ExceptHandler (some (.Name "ValueError" np)) none [.Return (some (.Constant (.bool true) k0 p2)) p3] hp] [] [] pos) env) Qf (fun _ _ => False) s₂ := by
  refine wpAny_Try_except (wpAny_execs_cons (wpAny_Expr_any (wpAny_mono (h g s₂ ok F k) (fun _ _ z => z.elim) fun x s' flt => ?_) hi hs))
  obtain ⟨B, a, t, g', O', h1, h2, h3, h4, h5, h6, h7⟩ := flt
  subst h1
  refine wpAny_looks_onW hA hf h2 fun x₄ held₄ sm₄ => ?_
  refine wpAny_landsW held₄ fun x₅ fly₅ sm₅ => ?_
  have hL : env.locals ∈ frs (env :: l) := by unfold frs; rw [List.filterMap_cons, hf]; exact .head _
  have offB := funFrames_at h2.2.2.1
  have offg : ∀ b ∈ frs (env :: l), g'.get? b = none := fun b hb => by
    cases q : g'.get? b with
    | none => rfl
    | some o => have := h3.keep _ _ q; rw [offB b hb] at this; cases this
  have offO : ∀ b ∈ frs (env :: l), ¬ dom O' b := fun b hb hm => by
    obtain ⟨p, hp, e1⟩ := List.mem_map.mp hm
    obtain ⟨o, ho⟩ := (h3.own p hp).1.there
    rw [e1, offB b hb] at ho; cases ho
  have ok₅ : Okb Γ g' { s' with heap := x₅ } [] := ⟨fun b o q => fly₅.1 _ _ (h3.keep _ _ q), h3.gam, (fun p hp => nomatch hp), List.nodup_nil, h3.gens, h3.os⟩
  have F₅ : Frm env g' x₅ [] ρ [] := by
    obtain ⟨m, hm, hr⟩ := F.loc
    obtain ⟨om, es, ep, hom, hdm, rm⟩ := hm
    obtain ⟨sl, hsl⟩ := h6 _ hL (fun z => z) om hom
    have hm' : s'.heap.Ns env.locals m := ⟨_, es, ep, hsl, hdm, rm⟩
    refine ⟨F.kind, F.glob, F.bi, ⟨m, sm₅.ns (sm₄.ns hm'), fun x d hx => ?_⟩, F.lk, F.nd, offg _ hL, (fun z => nomatch z), (fun p hp => nomatch hp), (fun p hp => nomatch hp), List.nodup_nil, (fun p hp => nomatch hp)⟩
    obtain ⟨v, a1, b1⟩ := hr x d hx
    exact ⟨v, a1, b1.up h4.up⟩
  obtain ⟨ob, hob, hobc⟩ := fly₅.there
  have hev : Ev Γ (A.mark (some (.ref a))) env ρ [] [] (.Name "ValueError" np) (fun d _ => d = .v VE) := Ev.bui hb rfl hx
  refine wpAny_handleBy_builtin (X := "ValueError") (T := "ValueError") (b := true) PySem.F.isExc_ValueError PySem.F.notTuple_ValueError (by rw [isSubtype_type]; kernel_rfl) (noE (T.use (hev g' _ ok₅ F₅) (fun c s₁ g₁ O₁ d G₁ i e1 => ?_)))
  subst e1
  cases i
  have k₁ : Sub x₅ s₁.heap := fun b o q => G₁.to.pres b o q (fun z => nomatch z)
  have fly₁ := flying_keeps k₁ fly₅
  refine ⟨rfl, ⟨ob, k₁ _ _ hob, hobc⟩, ?_⟩
  rw [if_pos rfl]
  refine lands_againW fly₁ fun x₆ fly₆ sm₆ => ?_
  have ok₆ : Okb Γ g' { s₁ with heap := x₆ } [] := ⟨fun b o q => fly₆.1 _ _ (h3.keep _ _ q), h3.gam, (fun p hp => nomatch hp), List.nodup_nil, G₁.ok.gens, G₁.ok.os⟩
  have F₆ : Frm env g' x₆ [] ρ [] := by
    obtain ⟨m, hm, hr⟩ := F₅.loc
    refine ⟨F.kind, F.glob, F.bi, ⟨m, sm₆.ns ?_, hr⟩, F.lk, F.nd, offg _ hL, (fun z => nomatch z), (fun p hp => nomatch hp), (fun p hp => nomatch hp), List.nodup_nil, (fun p hp => nomatch hp)⟩
    obtain ⟨om, es, ep, hom, hdm, rm⟩ := hm
    exact ⟨om, es, ep, k₁ _ _ hom, hdm, rm⟩
  have hev2 : Ev Γ (A.mark (some (.ref a))) env ρ [] [] (.Constant (.bool true) k0 p2) (fun d _ => d = .bool true) := Ev.bool rfl
  refine wpAny_execs_cons (wpAny_Return_some (noE (T.use (hev2 g' _ ok₆ F₆) (fun c s₃ g₃ O₃ d G₃ i e1 => ?_))))
  subst e1
  cases i
  have k₃ : Sub x₆ s₃.heap := fun b o q => G₃.to.pres b o q (fun z => nomatch z)
  have kB : Sub B s₃.heap := fun b o q => k₃ _ _ (fly₆.1 _ _ q)
  refine hR s₃ g' O' ⟨⟨fun b o q => kB _ _ (h3.keep _ _ q), h3.gam, fun p hp => ?_, h3.nd, G₃.ok.gens, G₃.ok.os⟩, ⟨fun b o q n => kB _ _ (h4.pres b o q fun z => n (z.resolve_left fun z => z)), h4.up, fun b o q n => (h4.new b o q n).imp id fun z => z.resolve_left fun z => z⟩, h5, fun b hb o ho => ?_, fun b hb => ⟨offg b hb, offO b hb⟩⟩ h7
  · obtain ⟨z1, z2⟩ := h3.own p hp
    obtain ⟨o, ho⟩ := z1.there
    exact ⟨z1.same ((kB _ _ ho).trans ho.symm), z2⟩
  · obtain ⟨_, _, o', ho', hnf⟩ := k.at hb
    rw [ho] at ho'
    cases ho'
    obtain ⟨sl, hs1⟩ := h6 b hb (fun z => z) o ho
    obtain ⟨sl2, hs2⟩ := sm₄ b _ hs1 hnf
    obtain ⟨sl3, hs3⟩ := sm₅ b _ hs2 hnf
    obtain ⟨sl4, hs4⟩ := sm₆ b _ (k₁ _ _ hs3) hnf
    exact ⟨sl4, k₃ _ _ hs4⟩

noncomputable def CalF (Γ : Gam) (n : Nat) (f : Value) (ds : List D) (kws : List (Str × D)) (O : Own) (Q : D → Own → Prop) : Prop :=
  ∀ A l g s vs ks, A.frames = some l → Room A n → Okb Γ g s O → Stk l g s.heap O → InL g vs ds → InL g ks (kws.map (·.2)) →
    codeAny Γ.M A (.call f ⟨vs, (kws.map (·.1)).zip ks⟩) (fun r s' => match r with | .ok (.ret v) => ∃ g' O' d, GoF Γ l g s O g' s' O' ∧ In g' v d ∧ Q d O' | .ok _ => False | .error _ => False) s
theorem CalF.of {n : Nat} {f : Value} {ds : List D} {kws : List (Str × D)} {Q : D → Own → Prop} (h : Cal Γ n f ds kws O Q) : CalF Γ n f ds kws O Q := fun A l g s vs ks hA r ok k i j =>
  codeAny_mono (h A g s vs ks r ok i j) fun r s' x => by
    rcases r with e | (_ | _ | _ | v)
    · exact x
    · exact x
    · exact x
    · exact x
    · obtain ⟨g', O', d, a, b, c⟩ := x
      exact ⟨g', O', d, .of k a, b, c⟩
theorem CalF.introTry {n : Nat} {f : Addr} {ds : List D} {kws : List (Str × D)} {oc : Value} {od : Option Addr} {osl : Array (Option Value)} {fd : FuncData} {params : List Str} {bds : List D} {e : Expr} {k0 : Nat} {p1 np p2 p3 hp' pos : Pos} {rest : List Stmt} (ρ₀ : Rho)
    (hk : Γ.K.lookup f = some ⟨oc, od, .func fd, osl⟩) (hcd : codeIn Γ.K fd.code fd.qualname = true) (hb : fd.body = .stmts (.Try [.Expr e p1] [.ExceptHandler (some (.Name "ValueError" np)) none [.Return (some (.Constant (.bool true) k0 p2)) p3] hp'] [] [] pos :: rest))
    (hfix : fd.closure = [] ∧ fd.globals = mainGlobals ∧ fd.builtins = builtinsNs ∧ fd.scope.isCoroutine = false ∧ fd.scope.isGenerator = false ∧ fd.scope.kind = .function)
    (hbind : ∀ g s vs ks, Okb Γ g s O → InL g vs ds → InL g ks (kws.map (·.2)) → ∃ bvs, BindsTo s fd ⟨vs, (kws.map (·.1)).zip ks⟩ (params.zip bvs) ∧ InL g bvs bds)
    (hdb : (fd.scope.names.all fun x => (!(x.2 == .local) && !(x.2 == .cell)) || (!(x.1 == ("__debug__" : Str)) && !(x.1 == ("__classdict__" : Str)))) = true) (hn : (fd.scope.names.map (·.1)).Nodup) (hp : params.Nodup) (hpk : ∀ p ∈ params, (p, NameKind.local) ∈ fd.scope.names ∨ (p, NameKind.cell) ∈ fd.scope.names)
    (hρ : rho0 fd.scope.names (params.zip bds) = ρ₀) (hκ : kap0 fd.scope.names (params.zip bds) = [])
    (hB : Bui Γ "ValueError" VE) (hx : ∀ L, (callEnvC fd L f).kindOf "ValueError" = some .globalImplicit) (hi : ∀ L, interactive (callEnvC fd L f) = false) (hs : ∀ L, swapsWith e none p1.line (callEnvC fd L f) = pure false)
    (h : ∀ A L l, A.frames = some (callEnvC fd L f :: l) → Room A n → EvR Γ A (callEnvC fd L f) l ρ₀ O e Q) :
    CalF Γ (n + 1) (.ref f) ds kws O (fun d O' => d = .bool true ∧ Q O') := fun A l g s vs ks hA room ok k iv ik => by
  subst hρ
  obtain ⟨bvs, hbt, ib⟩ := hbind g s vs ks ok iv ik
  have hkd : fd.scope.kind = .function := hfix.2.2.2.2.2
  refine callRun (show A.depth < recursionLimit by have := room.d; unfold recursionLimit; exact om_178 this) ok hk hcd hb hfix hdb hn hp hpk (hbt _ _ _ _ ⟨g, O, bvs, bds, rfl, .refl ok, ib, fun L s₂ B => ?_⟩)
  rw [hκ] at B
  have k₂ : Stk (callEnvC fd L f :: l) g s₂.heap O := fun x hx => by
    rcases List.mem_cons.mp hx with rfl | hx
    · obtain ⟨m, hm, _⟩ := B.fr.loc
      exact ⟨hkd, rfl, B.fr.gl, B.fr.lo, ns_obj hm⟩
    · obtain ⟨h1, h2, h3, h4, o, h5, h6⟩ := k x hx
      exact ⟨h1, h2, h3, h4, o, B.to.pres _ _ h5 id, h6⟩
  refine codeAny_func (noE (wpAny_execs_cons (tryVE (Around.frames_deeper hA) rfl hB (hx L) (hi L) (hs L) B.ok B.fr k₂ (h _ L l (Around.frames_deeper hA) room.deep) fun s₃ g' O' G q => ?_)))
  have hsub : ∀ b ∈ frs l, b ∈ frs (callEnvC fd L f :: l) := fun b hb => by unfold frs; rw [List.filterMap_cons]; exact .tail _ hb
  refine ⟨g', O', .bool true, ⟨G.ok, To.trans (B.to.weak (Y := fun b => dom O b ∨ b ∈ frs l) fun _ z => z.elim) G.to fun b z => ?_, wi_trans .refl B.to G.wi fun _ z => z.elim, fun b hb o ho => G.sl b (hsub b hb) o (B.to.pres _ _ ho id), fun b hb => G.fn b (hsub b hb)⟩, .bool _, rfl, q⟩
  rcases z with z | z
  · exact .inl (.inl z)
  · unfold frs at z
    rw [List.filterMap_cons] at z
    rcases List.mem_cons.mp z with z | z
    · exact .inr (by rw [z]; exact B.loc)
    · exact .inl (.inr z)
end
end Lw
end
section
namespace Lw
open PySem PySem.Calls PyProof.Rows PySem.W
noncomputable def Ex (Γ : Gam) (A : Around) (env : Env) (ρ κ : Rho) (O : Own) (e : Expr) (Q : D → Own → Prop) : Prop :=
  ∀ g s, Okb Γ g s O → Frm env g s.heap O ρ κ → wpAny Γ.M A (eval e env) (fun v s' => ∃ g' O' d, Gs Γ env g s κ O g' s' ρ κ O' ∧ In g' v d ∧ Q d O') (fun _ _ => False) s
noncomputable def Tx (Γ : Gam) (A : Around) (env : Env) (ρ κ : Rho) (O : Own) (e : Expr) (Q : Bool → Own → Prop) : Prop :=
  ∀ g s, Okb Γ g s O → Frm env g s.heap O ρ κ → wpAny Γ.M A (isTrue e env (eval e env)) (fun b s' => ∃ g' O', Gs Γ env g s κ O g' s' ρ κ O' ∧ Q b O') (fun _ _ => False) s
noncomputable def Txs (Γ : Gam) (A : Around) (env : Env) (ρ κ : Rho) (O : Own) (op : BoolOp) (l : List Expr) (Q : Bool → Own → Prop) : Prop :=
  ∀ g s, Okb Γ g s O → Frm env g s.heap O ρ κ → wpAny Γ.M A (allTrue op l env) (fun b s' => ∃ g' O', Gs Γ env g s κ O g' s' ρ κ O' ∧ Q b O') (fun _ _ => False) s
theorem Ex.use {Γ : Gam} {A : Around} {env : Env} {ρ κ : Rho} {α δ : Type} {t : Sem α} {R : Heap → α → δ → Prop} {g : Heap} {s : Shared} {O : Own} {Q : δ → Own → Prop} {P : α → Shared → Prop} {E : Value → Shared → Prop}
    (h : wpAny Γ.M A t (fun v s' => ∃ g' O' d, Gs Γ env g s κ O g' s' ρ κ O' ∧ R g' v d ∧ Q d O') (fun _ _ => False) s)
    (k : ∀ v s' g' O' d, Gs Γ env g s κ O g' s' ρ κ O' → R g' v d → Q d O' → P v s') : wpAny Γ.M A t P E s :=
  wpAny_mono h (fun _ _ x => match x with | ⟨_, _, _, a, b, c⟩ => k _ _ _ _ _ a b c) fun _ _ e => e.elim
theorem Tx.use {Γ : Gam} {A : Around} {env : Env} {ρ κ : Rho} {t : Sem Bool} {g : Heap} {s : Shared} {O : Own} {Q : Bool → Own → Prop} {P : Bool → Shared → Prop} {E : Value → Shared → Prop}
    (h : wpAny Γ.M A t (fun b s' => ∃ g' O', Gs Γ env g s κ O g' s' ρ κ O' ∧ Q b O') (fun _ _ => False) s)
    (k : ∀ b s' g' O', Gs Γ env g s κ O g' s' ρ κ O' → Q b O' → P b s') : wpAny Γ.M A t P E s :=
  wpAny_mono h (fun _ _ x => match x with | ⟨_, _, a, c⟩ => k _ _ _ _ a c) fun _ _ e => e.elim
section
variable {Γ : Gam} {A : Around} {env : Env} {ρ κ : Rho} {O : Own}
theorem Frm.gof {g g' : Heap} {s s' : Shared} {O' : Own} (F : Frm env g s.heap O ρ κ) (hf : env.frame = some env.locals) (G : GoF Γ [env] g s O g' s' O') : Frm env g' s'.heap O' ρ κ := by
  have hfr : frs [env] = [env.locals] := by unfold frs; rw [List.filterMap_cons, hf]; rfl
  have hL : env.locals ∈ frs [env] := by rw [hfr]; exact .head _
  obtain ⟨m, hm, hr⟩ := F.loc
  obtain ⟨om, es, ep, hom, hdm, rm⟩ := hm
  obtain ⟨sl, hsl⟩ := G.sl _ hL om hom
  obtain ⟨f1, f2⟩ := G.fn _ hL
  refine ⟨F.kind, F.glob, F.bi, ⟨m, ⟨_, es, ep, hsl, hdm, rm⟩, fun x d hx => ?_⟩, F.lk, F.nd, f1, f2, F.ck, fun p hp => ?_, F.cnd, F.cin⟩
  · obtain ⟨v, a1, b1⟩ := hr x d hx
    exact ⟨v, a1, b1.up G.to.up⟩
  · obtain ⟨h1, ca, h2, h3, h4, h5, ov, hc, h6⟩ := F.cel p hp
    obtain ⟨o, ho, hc1⟩ := id hc
    have nx : ¬ (dom O ca ∨ ca ∈ frs [env]) := fun z => z.elim h4 fun z => by
      rw [hfr] at z
      exact h5 (List.mem_singleton.mp z)
    have e1 := G.to.pres _ _ ho nx
    refine ⟨h1, ca, h2, G.to.none ho nx h3, G.wi.off h4 ho, h5, ov, ⟨o, e1, hc1⟩, fun d hd => ?_⟩
    obtain ⟨v, a1, b1⟩ := h6 d hd
    exact ⟨v, a1, b1.up G.to.up⟩
theorem Gs.ofGoF {g g' : Heap} {s s' : Shared} {O' : Own} (F : Frm env g s.heap O ρ κ) (hf : env.frame = some env.locals) (G : GoF Γ [env] g s O g' s' O') : Gs Γ env g s κ O g' s' ρ κ O' := by
  have hfr : frs [env] = [env.locals] := by unfold frs; rw [List.filterMap_cons, hf]; rfl
  refine ⟨G.ok, F.gof hf G, G.to.weak fun b x => .inl ?_, G.wi, rfl⟩
  rcases x with x | x
  · exact .inr (.inr x)
  · rw [hfr] at x; exact .inl (List.mem_singleton.mp x)
theorem Frm.stk {g h : Heap} (F : Frm env g h O ρ κ) (hf : env.frame = some env.locals) : Stk [env] g h O := fun e he => by
  have := List.mem_singleton.mp he
  subst this
  obtain ⟨m, hm, _⟩ := F.loc
  exact ⟨F.kind, hf, F.gl, F.lo, ns_obj hm⟩
theorem Ex.call {n : Nat} {x : Str} {p pos : Pos} {args : List Expr} {Q : D → Own → Prop} (hA : A.frames = some [env]) (r : Room A n) (hf : env.frame = some env.locals)
    (h : Ev Γ A env ρ κ O (.Name x p) fun df O₁ => ∃ f, df = .v f ∧ Kp Γ f ∧ Evs Γ A env ρ κ O₁ args fun ds O₂ => CalF Γ n f ds [] O₂ Q) (hp : NoStar env args) : Ex Γ A env ρ κ O (.Call (.Name x p) args [] pos) Q := fun g s ok F =>
  wpAny_bind (T.use (h g s ok F) (fun v s₁ g₁ O₁ d G₁ i ⟨f, e, hk, h₁⟩ => by
    subst e; cases i
    refine callKp hk (hp pos) (T.use (h₁ pos g₁ s₁ G₁.ok (F.go G₁)) (fun vs s₂ g₂ O₂ ds G₂ is q => ⟨G₂.ok.kin, ?_⟩))
    have Gb := G₁.trans G₂
    have F₂ := F.go Gb
    refine wpAny_call (codeAny_mono (q A [env] g₂ s₂ vs [] hA r G₂.ok (F₂.stk hf) is .nil) fun r s' x => ?_)
    rcases r with e | (_ | _ | _ | v)
    · exact x.elim
    · exact x.elim
    · exact x.elim
    · exact x.elim
    · obtain ⟨g', O', d, a, b, c⟩ := x
      exact ⟨g', O', d, (Gs.ofGo F Gb).trans (.ofGoF F₂ hf a), b, c⟩))
theorem Tx.val {e : Expr} {Q : Bool → Own → Prop} (h : Ex Γ A env ρ κ O e (KTr Γ A Q)) (he : isTrue e env (eval e env) = (do let v ← eval e env; standAt e.pos; holding [v] (truthy v))) : Tx Γ A env ρ κ O e Q := fun g s ok F => by
  rw [he]
  exact wpAny_bind (Ex.use (h g s ok F) (fun v s₁ g₁ O₁ d G₁ i h₁ => wpAny_bind (wpAny_standAt (wpAny_holding (T.use (h₁ g₁ s₁ v G₁.ok i) (fun b s₂ g₂ O₂ c G₂ ic q => ⟨g₂, O₂, G₁.trans (.ofGo G₁.fr G₂), by rw [ic]; exact q⟩))))))
theorem Tx.not {x : Expr} {pos : Pos} {Q : Bool → Own → Prop} (h : Tx Γ A env ρ κ O x (KNot Q)) : Tx Γ A env ρ κ O (.UnaryOp .Not x pos) Q := fun g s ok F =>
  wpAny_isTrue_Not (Tx.use (h g s ok F) fun _ _ g₁ O₁ G₁ q => ⟨g₁, O₁, G₁, q⟩)
theorem Tx.cmp {l r : Expr} {op : CmpOp} {pos : Pos} {Q : Bool → Own → Prop} (h : Ex Γ A env ρ κ O l (KE2 Γ A env ρ κ r (compareOp op) (KTr Γ A Q))) (hm : behindInMarks op r = false) :
    Tx Γ A env ρ κ O (.Compare l [op] [r] pos) Q := fun g s ok F =>
  wpAny_isTrue_Compare1 (Ex.use (h g s ok F) (fun v s₁ g₁ O₁ a G₁ ia h₁ => T.use (h₁ g₁ s₁ G₁.ok G₁.fr) (fun w s₂ g₂ O₂ b G₂ ib h₂ => 
    T.use (h₂ g₂ s₂ v w G₂.ok (ia.up G₂.to.up) ib) (fun u s₃ g₃ O₃ c G₃ ic h₃ => T.use (h₃ g₃ s₃ u G₃.ok ic) (fun b' s₄ g₄ O₄ c' G₄ e q => ⟨g₄, O₄, G₁.trans (.ofGo G₁.fr ((G₂.trans G₃).trans G₄)), by rw [e]; exact q⟩))))) hm
theorem Tx.bool {op : BoolOp} {l : List Expr} {pos : Pos} {Q : Bool → Own → Prop} (h : Txs Γ A env ρ κ O op l Q) : Tx Γ A env ρ κ O (.BoolOp op l pos) Q := fun g s ok F => h g s ok F
theorem Txs.orNil {Q : Bool → Own → Prop} (q : Q false O) : Txs Γ A env ρ κ O .Or [] Q := fun g s ok F => wpAny_pure ⟨g, O, .ofGo F (.refl ok), q⟩
theorem Txs.or {x : Expr} {rest : List Expr} {Q : Bool → Own → Prop} (h : Tx Γ A env ρ κ O x fun b O₁ => if b then Q true O₁ else Txs Γ A env ρ κ O₁ .Or rest Q) : Txs Γ A env ρ κ O .Or (x :: rest) Q := fun g s ok F =>
  wpAny_bind (Tx.use (h g s ok F) fun b s₁ g₁ O₁ G₁ h₁ => by
    cases b with
    | false => exact Tx.use (h₁ g₁ s₁ G₁.ok G₁.fr) fun b s₂ g₂ O₂ G₂ q => ⟨g₂, O₂, G₁.trans G₂, q⟩
    | true => exact wpAny_pure ⟨g₁, O₁, G₁, h₁⟩)
theorem S1.iteX {test : Expr} {body orelse : List Stmt} {pos : Pos} {Q : Fl → Rho → Rho → Own → Prop} (h : Tx Γ A env ρ κ O test (KIfS Γ A env ρ κ body orelse Q)) : S1 Γ A env ρ κ O (.If test body orelse pos) Q := fun g s ok F =>
  wpAny_If (Tx.use (h g s ok F) fun b s₁ g₁ O₁ G₁ q => by
    cases b <;> exact Fx.after G₁ (q g₁ s₁ G₁.ok G₁.fr))
noncomputable abbrev KTy (Q : Fl → Rho → Rho → Own → Prop) : Fl → Rho → Rho → Own → Prop := fun f ρ κ O => f = .next ∧ Q .next ρ κ O
theorem S1.tryN {body : List Stmt} {h₀ : ExceptHandler} {hs : List ExceptHandler} {pos : Pos} {Q : Fl → Rho → Rho → Own → Prop} (h : Ss Γ A env ρ κ O body (KTy Q)) : S1 Γ A env ρ κ O (.Try body (h₀ :: hs) [] [] pos) Q := fun g s ok F =>
  wpAny_Try_except (Fx.use (h g s ok F) (fun v s₁ g₁ ρ₁ κ₁ O₁ f G hf hq9 => by
    obtain ⟨e, q⟩ := hq9
    subst e
    cases hf
    exact wpAny_execs_nil ⟨g₁, ρ₁, κ₁, O₁, .next, G, .next, q⟩))
end
theorem CalF.mono {Γ : Gam} {n : Nat} {f : Value} {ds : List D} {kws : List (Str × D)} {O : Own} {Q Q' : D → Own → Prop} (h : CalF Γ n f ds kws O Q) (q : ∀ d O', Q d O' → Q' d O') : CalF Γ n f ds kws O Q' := fun A l g s vs ks hA r ok k i j =>
  codeAny_mono (h A l g s vs ks hA r ok k i j) fun r s' x => by
    rcases r with e | (_ | _ | _ | v)
    · exact x
    · exact x
    · exact x
    · exact x
    · obtain ⟨g', O', d, a, b, c⟩ := x
      exact ⟨g', O', d, a, b, q _ _ c⟩
end Lw
end
section
namespace Lw
open PySem PySem.Calls PyProof.Rows PySem.W
section
variable {Γ : Gam} {A : Around} {env : Env} {ρ κ : Rho} {O : Own}
theorem Go.toOS {g : Heap} {s : Shared} {O₂ : Own} (ok : Okb Γ g s O) (l : OS O₂ O) : Go Γ g s O g s O₂ := ⟨l.okb ok, .refl, fun b hb => .inl (l.dom b hb)⟩
theorem Ca.frz {f : Value} {ds : List D} {kws : List (Str × D)} {Q : D → Own → Prop} (h : Ca Γ A O f ds kws fun d O' => ∃ a xs P, d = .v (.ref a) ∧ OS ((a, .list xs) :: P) O' ∧ Q (.lst xs) P) : Ca Γ A O f ds kws Q := fun g s vs ks ok i j =>
  T.use (h g s vs ks ok i j) (fun v s' g' O' d G iv hq9 => by
    obtain ⟨a, xs, P, e, hos, q⟩ := hq9
    subst e
    cases iv
    have G₂ := Go.toOS G.ok hos
    obtain ⟨g'', G₃, i'⟩ := Go.freeze G₂.ok
    exact ⟨g'', P, _, (G.trans G₂).trans G₃, i', q⟩)
theorem Ev.frz2 {e : Expr} {Q : D → Own → Prop} (h : Ev Γ A env ρ κ O e fun d O' => ∃ a xs b ys c P, d = .tup [.v (.ref a), .v (.ref b), c] ∧ OS ((a, .list xs) :: (b, .list ys) :: P) O' ∧ Q (.tup [.lst xs, .lst ys, c]) P) : Ev Γ A env ρ κ O e Q := fun g s ok F =>
  T.use (h g s ok F) (fun v s' g' O' d G iv ⟨a, xs, b, ys, c, P, e, hos, q⟩ => by
    subst e
    obtain ⟨t, vs, n, rfl, ht, is⟩ := tup_inv iv
    obtain ⟨x, y, z, hv, i1, i2, i3⟩ := is.three
    cases i1
    cases i2
    have G₂ := Go.toOS G.ok hos
    obtain ⟨g₁, G₃, j1⟩ := Go.freeze G₂.ok
    obtain ⟨g₂, G₄, j2⟩ := Go.freeze G₃.ok
    have up := (G₃.trans G₄).to.up
    refine ⟨g₂, P, _, ((G.trans G₂).trans G₃).trans G₄, .tup (up _ _ ht) ?_, q⟩
    rw [hv]
    exact .cons (j1.up G₄.to.up) (.cons j2 (.cons (i3.up up) .nil)))
end
end Lw
end
section
namespace Lw
open PySem PySem.Calls PyProof.Rows PySem.W
noncomputable abbrev Γ1 (w : World) (mg mb : Str → Option Value) (os : OsState) : Gam := ⟨PySem.Challenge.rw_pm0077_01.row.prog, w, hd_01.heap_1 w.params, mg, mb, os⟩
section
variable (w : World) (mg mb : Str → Option Value) (os : OsState)
theorem b_int : Bui (Γ1 w mg mb os) "int" (.type "int") := ⟨by kernel_rfl, Boot.«int», by decide +kernel, by decide +kernel⟩
theorem b_range : Bui (Γ1 w mg mb os) "range" (.type "range") := ⟨by kernel_rfl, Boot.«range», by decide +kernel, by decide +kernel⟩
theorem b_tuple : Bui (Γ1 w mg mb os) "tuple" (.type "tuple") := ⟨by kernel_rfl, Boot.«tuple», by decide +kernel, by decide +kernel⟩
theorem b_type : Bui (Γ1 w mg mb os) "type" (.type "type") := ⟨by kernel_rfl, Boot.«type», by decide +kernel, by decide +kernel⟩
theorem b_str : Bui (Γ1 w mg mb os) "str" (.type "str") := ⟨by kernel_rfl, Boot.«str», by decide +kernel, by decide +kernel⟩
theorem b_list : Bui (Γ1 w mg mb os) "list" (.type "list") := ⟨by kernel_rfl, Boot.«list», by decide +kernel, by decide +kernel⟩
theorem b_len : Bui (Γ1 w mg mb os) "len" (.builtin "len") := ⟨by kernel_rfl, Boot.«len», by decide +kernel, by decide +kernel⟩
theorem b_chr : Bui (Γ1 w mg mb os) "chr" (.builtin "chr") := ⟨by kernel_rfl, Boot.«chr», by decide +kernel, by decide +kernel⟩
theorem b_max : Bui (Γ1 w mg mb os) "max" (.builtin "max") := ⟨by kernel_rfl, Boot.«max», by decide +kernel, by decide +kernel⟩
theorem b_min : Bui (Γ1 w mg mb os) "min" (.builtin "min") := ⟨by kernel_rfl, Boot.«min», by decide +kernel, by decide +kernel⟩
theorem n_Whitespace : Glo (Γ1 w mg mb os) "Whitespace" (.ref 264) := ⟨by kernel_rfl, by decide +kernel⟩
theorem n_rgb_to_hsv : Glo (Γ1 w mg mb os) "rgb_to_hsv" (.ref 195) := ⟨by kernel_rfl, by decide +kernel⟩
theorem n_hsv_to_rgb : Glo (Γ1 w mg mb os) "hsv_to_rgb" (.ref 202) := ⟨by kernel_rfl, by decide +kernel⟩
theorem n__name_disallowed_re : Glo (Γ1 w mg mb os) "_name_disallowed_re" (.ref 48) := ⟨by kernel_rfl, by decide +kernel⟩
theorem n__value_disallowed_re : Glo (Γ1 w mg mb os) "_value_disallowed_re" (.ref 53) := ⟨by kernel_rfl, by decide +kernel⟩
theorem n_Headers : Glo (Γ1 w mg mb os) "Headers" (.ref 184) := ⟨by kernel_rfl, by decide +kernel⟩
theorem n__law_cut : Glo (Γ1 w mg mb os) "_law_cut" (.ref 275) := ⟨by kernel_rfl, by decide +kernel⟩
theorem n__law_lead : Glo (Γ1 w mg mb os) "_law_lead" (.ref 282) := ⟨by kernel_rfl, by decide +kernel⟩
theorem n__law_piles : Glo (Γ1 w mg mb os) "_law_piles" (.ref 287) := ⟨by kernel_rfl, by decide +kernel⟩
theorem n__law_play : Glo (Γ1 w mg mb os) "_law_play" (.ref 292) := ⟨by kernel_rfl, by decide +kernel⟩
theorem n__law_refused : Glo (Γ1 w mg mb os) "_law_refused" (.ref 299) := ⟨by kernel_rfl, by decide +kernel⟩
theorem k_264 : Kp (Γ1 w mg mb os) (.ref 264) := Kp.fn (by kernel_rfl)
theorem k_195 : Kp (Γ1 w mg mb os) (.ref 195) := Kp.fn (by kernel_rfl)
theorem k_202 : Kp (Γ1 w mg mb os) (.ref 202) := Kp.fn (by kernel_rfl)
theorem k_184 : Kp (Γ1 w mg mb os) (.ref 184) := Kp.fn (by kernel_rfl)
theorem k_275 : Kp (Γ1 w mg mb os) (.ref 275) := Kp.fn (by kernel_rfl)
theorem k_282 : Kp (Γ1 w mg mb os) (.ref 282) := Kp.fn (by kernel_rfl)
theorem k_287 : Kp (Γ1 w mg mb os) (.ref 287) := Kp.fn (by kernel_rfl)
theorem k_292 : Kp (Γ1 w mg mb os) (.ref 292) := Kp.fn (by kernel_rfl)
theorem k_299 : Kp (Γ1 w mg mb os) (.ref 299) := Kp.fn (by kernel_rfl)
theorem k_240 : Kp (Γ1 w mg mb os) (.ref 240) := Kp.fn (by kernel_rfl)
theorem k_83 : Kp (Γ1 w mg mb os) (.ref 83) := Kp.fn (by kernel_rfl)
theorem k_131 : Kp (Γ1 w mg mb os) (.ref 131) := Kp.fn (by kernel_rfl)
theorem k_148 : Kp (Γ1 w mg mb os) (.ref 148) := Kp.fn (by kernel_rfl)
theorem k_174 : Kp (Γ1 w mg mb os) (.ref 174) := Kp.fn (by kernel_rfl)
theorem k_181 : Kp (Γ1 w mg mb os) (.ref 181) := Kp.fn (by kernel_rfl)
theorem pg_264 (x : Str) : plainGet (Γ1 w mg mb os).K 264 x = true := by unfold plainGet; kernel_rfl
theorem hd_264 : hasDictIn (Γ1 w mg mb os).K 264 = true := by kernel_rfl
theorem mk_264 : makesIn (Γ1 w mg mb os).K 264 = true := by kernel_rfl
theorem sa_264 : findIn (Γ1 w mg mb os).K (.ref 264) "__setattr__" = some (some (.builtin "object.__setattr__")) := by kernel_rfl
theorem po_264 : plainOver (Γ1 w mg mb os).K 264 = true := by kernel_rfl
theorem pg_184 (x : Str) : plainGet (Γ1 w mg mb os).K 184 x = true := by unfold plainGet; kernel_rfl
theorem hd_184 : hasDictIn (Γ1 w mg mb os).K 184 = true := by kernel_rfl
theorem mk_184 : makesIn (Γ1 w mg mb os).K 184 = true := by kernel_rfl
theorem sa_184 : findIn (Γ1 w mg mb os).K (.ref 184) "__setattr__" = some (some (.builtin "object.__setattr__")) := by kernel_rfl
theorem po_184 : plainOver (Γ1 w mg mb os).K 184 = true := by kernel_rfl
theorem a_raw : findIn (Γ1 w mg mb os).K (.ref 264) "raw" = some none := by kernel_rfl
theorem t_raw : takerIn (Γ1 w mg mb os).K 264 "raw" = some none := by kernel_rfl
theorem a_n : findIn (Γ1 w mg mb os).K (.ref 264) "n" = some none := by kernel_rfl
theorem t_n : takerIn (Γ1 w mg mb os).K 264 "n" = some none := by kernel_rfl
theorem a_nt : findIn (Γ1 w mg mb os).K (.ref 264) "nt" = some none := by kernel_rfl
theorem t_nt : takerIn (Γ1 w mg mb os).K 264 "nt" = some none := by kernel_rfl
theorem a_norm : findIn (Γ1 w mg mb os).K (.ref 264) "norm" = some none := by kernel_rfl
theorem t_norm : takerIn (Γ1 w mg mb os).K 264 "norm" = some none := by kernel_rfl
theorem t_is_simple : takerIn (Γ1 w mg mb os).K 264 "is_simple" = some none := by kernel_rfl
theorem a__headers : findIn (Γ1 w mg mb os).K (.ref 184) "_headers" = some none := by kernel_rfl
theorem t__headers : takerIn (Γ1 w mg mb os).K 184 "_headers" = some none := by kernel_rfl
theorem m_219 : findIn (Γ1 w mg mb os).K (.ref 264) "__init__" = some (some (.ref 219)) := by kernel_rfl
theorem ty_219 : typeIn (Γ1 w mg mb os).K (.ref 219) = some (.type "function") := by kernel_rfl
theorem m_240 : findIn (Γ1 w mg mb os).K (.ref 264) "equal" = some (some (.ref 240)) := by kernel_rfl
theorem ty_240 : typeIn (Γ1 w mg mb os).K (.ref 240) = some (.type "function") := by kernel_rfl
theorem m_76 : findIn (Γ1 w mg mb os).K (.ref 184) "__init__" = some (some (.ref 76)) := by kernel_rfl
theorem ty_76 : typeIn (Γ1 w mg mb os).K (.ref 76) = some (.type "function") := by kernel_rfl
theorem m_83 : findIn (Γ1 w mg mb os).K (.ref 184) "_convert_string_type" = some (some (.ref 83)) := by kernel_rfl
theorem ty_83 : typeIn (Γ1 w mg mb os).K (.ref 83) = some (.type "function") := by kernel_rfl
theorem m_131 : findIn (Γ1 w mg mb os).K (.ref 184) "get" = some (some (.ref 131)) := by kernel_rfl
theorem ty_131 : typeIn (Γ1 w mg mb os).K (.ref 131) = some (.type "function") := by kernel_rfl
theorem m_148 : findIn (Γ1 w mg mb os).K (.ref 184) "items" = some (some (.ref 148)) := by kernel_rfl
theorem ty_148 : typeIn (Γ1 w mg mb os).K (.ref 148) = some (.type "function") := by kernel_rfl
theorem m_174 : findIn (Γ1 w mg mb os).K (.ref 184) "setdefault" = some (some (.ref 174)) := by kernel_rfl
theorem ty_174 : typeIn (Γ1 w mg mb os).K (.ref 174) = some (.type "function") := by kernel_rfl
theorem m_181 : findIn (Γ1 w mg mb os).K (.ref 184) "add_header" = some (some (.ref 181)) := by kernel_rfl
theorem ty_181 : typeIn (Γ1 w mg mb os).K (.ref 181) = some (.type "function") := by kernel_rfl
end
end Lw
end
section
namespace Lw
open PySem PySem.Calls PyProof.Rows PySem.W
noncomputable abbrev fOne : UInt64 := 4607182418800017408
noncomputable abbrev fSix : UInt64 := 4618441417868443648
noncomputable abbrev fTwo : UInt64 := 4611686018427387904
noncomputable abbrev fFour : UInt64 := 4616189618054758400
noncomputable abbrev fHalf : UInt64 := 4602678819172646912
noncomputable abbrev f255 : UInt64 := 4643176031446892544
theorem put0 {r : Rho} {x : Str} {od : Option D} {d : D} {P : Rho → Prop} (k : P ((x, some d) :: r)) : ∃ ρ', Put ((x, od) :: r) x d ρ' ∧ P ρ' := ⟨_, .here, k⟩
theorem putS {r : Rho} {x : Str} {p : Str × Option D} {d : D} {P : Rho → Prop} (k : ∃ ρ', Put r x d ρ' ∧ P (p :: ρ')) : ∃ ρ', Put (p :: r) x d ρ' ∧ P ρ' := let ⟨ρ', h, q⟩ := k; ⟨p :: ρ', .there h, q⟩
theorem ite_t {b : Bool} {P R : Prop} (h : b = true) (p : P) : if b = true then P else R := by rw [if_pos h]; exact p
theorem ite_f {b : Bool} {P R : Prop} (h : ¬ b = true) (p : R) : if b = true then P else R := by rw [if_neg h]; exact p
theorem fit3 {n : Nat} (h : n < 1000) : n < 2 ^ 1023 := Nat.lt_trans h (by decide +kernel)
theorem small_bits {a : Int} (h : a.natAbs < 4294967296) : Builtin.Int.intBits a ≤ 64 := by
  have h : a.natAbs < 2 ^ 32 := h
  unfold Builtin.Int.intBits
  split
  · exact om_302
  · rename_i hz
    have := Nat.log2_lt (n := a.natAbs) (k := 32) (by simpa using hz)
    have h3 := this.mpr h
    exact om_303 h3
theorem mulOkL {a b : Int} (h : a.natAbs < 4294967296) : IntMulOk a b := .of_left (small_bits h)
noncomputable def HQ (b : Bool) (P : Prop) : Prop := b = true ∧ P
theorem hq {b : Bool} {P : Prop} (h : b = true) (p : P) : HQ b P := ⟨h, p⟩
theorem fat0 {x : Str} {d : D} {r : List (Str × D)} {P : D → Prop} (k : P d) : ∃ e, FAt ((x, d) :: r) x e ∧ P e := ⟨_, .here, k⟩
theorem fatS {x y : Str} {d : D} {r : List (Str × D)} {P : D → Prop} (h : (y == x) = false) (k : ∃ e, FAt r x e ∧ P e) : ∃ e, FAt ((y, d) :: r) x e ∧ P e := let ⟨e, a, b⟩ := k; ⟨e, .there h a, b⟩
theorem As.tup2 {Γ : Gam} {A : Around} {env : Env} {ρ κ : Rho} {O : Own} {x y : Str} {p q pos : Pos} {k : Nat} {d e : D} {Q : Rho → Rho → Own → Prop} (hh : A.handled = none) (h : Asl Γ A env ρ κ O [assign (.Name x p) env, assign (.Name y q) env] [d, e] Q) : As Γ A env ρ κ O (assign (.Tuple [.Name x p, .Name y q] k pos) env) (.tup [d, e]) Q := As.tup hh rfl rfl rfl h
theorem As.tup3 {Γ : Gam} {A : Around} {env : Env} {ρ κ : Rho} {O : Own} {x y z : Str} {p q r pos : Pos} {k : Nat} {d e f : D} {Q : Rho → Rho → Own → Prop} (hh : A.handled = none) (h : Asl Γ A env ρ κ O [assign (.Name x p) env, assign (.Name y q) env, assign (.Name z r) env] [d, e, f] Q) : As Γ A env ρ κ O (assign (.Tuple [.Name x p, .Name y q, .Name z r] k pos) env) (.tup [d, e, f]) Q := As.tup hh rfl rfl rfl h
theorem oup0 {a : Addr} {c c' : Cont} {r : Own} {P : Own → Prop} (k : P ((a, c') :: r)) : ∃ O', OUp ((a, c) :: r) a c c' O' ∧ P O' := ⟨_, .here, k⟩
theorem oupS {a : Addr} {c c' : Cont} {p : Addr × Cont} {r : Own} {P : Own → Prop} (k : ∃ O', OUp r a c c' O' ∧ P (p :: O')) : ∃ O', OUp (p :: r) a c c' O' ∧ P O' := let ⟨O', h, q⟩ := k; ⟨p :: O', .there h, q⟩
theorem FAt.last {x : Str} {d : D} : ∀ {fs : List (Str × D)}, FNo fs x = true → FAt (fs ++ [(x, d)]) x d
  | [], _ => .here
  | p :: r, h => by
    unfold FNo at h
    rw [List.all_cons, Bool.and_eq_true] at h
    exact .there (by simpa using h.1) (FAt.last h.2)
theorem fatL {fs : List (Str × D)} {x : Str} {d : D} {P : D → Prop} (h : FNo fs x = true) (k : P d) : ∃ e, FAt (fs ++ [(x, d)]) x e ∧ P e := ⟨d, .last h, k⟩
theorem S1.swap2 {Γ : Gam} {A : Around} {env : Env} {ρ κ : Rho} {O : Own} {targets : List Expr} {value : Expr} {pos : Pos} {x y : Str} {Q : Fl → Rho → Rho → Own → Prop} (hh : A.handled = none)
    (h : Ev Γ A env ρ κ O value fun d O₁ => ∃ a b, d = .tup [a, b] ∧ Asl Γ A env ρ κ O₁ [fun v => bindName env y v, fun v => bindName env x v] [b, a] fun ρ' κ' O' => Q .next ρ' κ' O')
    (hs : swapsWithSole targets value pos.line env = pure false) (hw : swappedStores targets value env = pure (some [x, y])) : S1 Γ A env ρ κ O (.Assign targets value pos) Q :=
  S1.swap (names := [x, y]) hh (h.mono fun d O₁ ⟨a, b, e, q⟩ => ⟨[a, b], e, rfl, q⟩) rfl hs hw
theorem Exs.weak {Γ : Gam} {A : Around} {env : Env} {ρ ρ' κ : Rho} {O O' : Own} {t : Sem Flow} {Q : Fl → Rho → Rho → Own → Prop} (f : Fgt ρ ρ') (l : OS O' O) (h : Exs Γ A env ρ' κ O' t Q) : Exs Γ A env ρ κ O t Q := fun g s ok F => by
  have G := (Gs.ofGo F (Go.refl ok)).forget f l
  exact Fx.after G (h g s G.ok G.fr)
theorem setLk {Γ : Gam} {A : Around} {O : Own} {a : Addr} {k : Int} {d : D} {ds : List D} {Q : Own → Prop} (h0 : 0 ≤ k) (h1 : k < ds.length) (h2 : k < 2 ^ 63) (m : (a, .list ds) ∈ O) (u : ∃ O', OUp O a (.list ds) (.list (ds.set k.toNat d)) O' ∧ Q O') : Op3 Γ A O setItem (.v (.ref a)) (.int k) d Q := let ⟨_, h, q⟩ := u; Op3.setL h0 h1 h2 h q
theorem S1.mono {Γ : Gam} {A : Around} {env : Env} {ρ κ : Rho} {O : Own} {st : Stmt} {Q Q' : Fl → Rho → Rho → Own → Prop} (h : S1 Γ A env ρ κ O st Q) (k : ∀ f ρ' κ' O', Q f ρ' κ' O' → Q' f ρ' κ' O') : S1 Γ A env ρ κ O st Q' := Exs.mono h k
noncomputable abbrev KA3 (Γ : Gam) (A : Around) (env : Env) (t : Expr) (d : D) (P : Rho → Rho → Own → Prop) : Rho → Rho → Own → Prop := fun ρ κ O => As Γ A env ρ κ O (assign t env) d P
noncomputable abbrev K3As (Γ : Gam) (A : Around) (env : Env) (ρ κ : Rho) (t₁ t₂ t₃ : Expr) (Q : Fl → Rho → Rho → Own → Prop) : D → Own → Prop := fun d O => As Γ A env ρ κ O (assign t₁ env) d (KA3 Γ A env t₂ d (KA3 Γ A env t₃ d (KNx3 Q)))
theorem S1.as3n {Γ : Gam} {A : Around} {env : Env} {ρ κ : Rho} {O : Own} {t₁ t₂ t₃ value : Expr} {pos : Pos} {Q : Fl → Rho → Rho → Own → Prop} (h : Ev Γ A env ρ κ O value (K3As Γ A env ρ κ t₁ t₂ t₃ Q))
    (he : (assignEach [t₁, t₂, t₃] env).map (·.2) = [assign t₁ env, assign t₂ env, assign t₃ env]) (hw : swappedStores [t₁, t₂, t₃] value env = pure none) : S1 Γ A env ρ κ O (.Assign [t₁, t₂, t₃] value pos) Q := S1.as3 (h.mono fun _ _ q _ _ => q) he hw
noncomputable def codeN : Array Nat := #[14, 10, 4, 1, 1, 22, 0, 31, 16, 127, 0, 13, 7, 22, 0, 31, 16, 127, 0, 1]
noncomputable def codeV : Array Nat := #[14, 14, 4, 1, 1, 9, 4294966783, 0, 0, 2147483648, 0, 0, 0, 0, 0, 13, 11, 9, 4294966783, 0, 0, 2147483648, 0, 0, 0, 0, 0, 1]
theorem pat48 (w : World) (mg mb : Str → Option Value) (os : OsState) : PatAt (Γ1 w mg mb os) 48 codeN := ⟨⟨_, _, _, _, _, _, _, _, rfl, rfl, by decide +kernel⟩⟩
theorem pat53 (w : World) (mg mb : Str → Option Value) (os : OsState) : PatAt (Γ1 w mg mb os) 53 codeV := ⟨⟨_, _, _, _, _, _, _, _, rfl, rfl, by decide +kernel⟩⟩
theorem Ca.app1 {Γ : Gam} {A : Around} {O : Own} {f : Value} {a : D} {ds : List D} {kws : List (Str × D)} {Q : D → Own → Prop} (h : Ca Γ A O f (a :: ds) kws Q) : Ca Γ A O f ([a] ++ ds) kws Q := h
theorem Ca.zip1 {Γ : Gam} {A : Around} {O : Own} {f : Value} {k : Str} {d : D} {ds : List D} {Q : D → Own → Prop} (h : Ca Γ A O f ds [(k, d)] Q) : Ca Γ A O f ds ([k].zip [d]) Q := h
inductive Has : Rho → Str → Prop
  | here {x : Str} {od : Option D} {r : Rho} : Has ((x, od) :: r) x
  | there {p : Str × Option D} {r : Rho} {x : Str} : Has r x → Has (p :: r) x
theorem asLk {Γ : Gam} {A : Around} {env : Env} {ρ κ : Rho} {O : Own} {Q : Fl → Rho → Rho → Own → Prop} {x : Str} {p1 pos : Pos} {value : Expr} (hm : Has ρ x) (h : Ev Γ A env ρ κ O value (KAsL ρ κ x Q)) (hs : swapsWith value (some (.Name x p1)) pos.line env = pure false) : S1 Γ A env ρ κ O (.Assign [.Name x p1] value pos) Q := S1.asL h hs
theorem locLk {Γ : Gam} {A : Around} {env : Env} {ρ κ : Rho} {O : Own} {x : Str} {pos : Pos} {d : D} {Q : Rho → Rho → Own → Prop} (hm : Has ρ x) (h : Exists (KPut ρ x d (KNq κ O Q))) : As Γ A env ρ κ O (assign (.Name x pos) env) d Q := As.loc h
theorem Str.len_app (a b : Str) : (a ++ b).length = a.length + b.length := by show (a.cps ++ b.cps).size = _; rw [Array.size_append]; rfl
noncomputable def truthD : D → Option Bool
  | .bool b => some b
  | .int i => some (i != 0)
  | _ => none
theorem sgn (c k : Nat) : ((⟨#[c]⟩ : Str) == ⟨#[k]⟩) = (c == k) := by
  cases h : c == k with
  | true => rw [eq_of_beq h]; simp
  | false =>
    have : c ≠ k := beq_eq_false_iff_ne.mp h
    refine beq_eq_false_iff_ne.mpr fun e => this ?_
    have := congrArg (fun s : Str => s.cps.toList) e
    simpa using this
theorem spaceIs : (" " : Str) = ⟨#[32]⟩ := by decide +kernel
theorem tabIs : ("\t" : Str) = ⟨#[9]⟩ := by decide +kernel
theorem rangeSize_one (a b : Int) : Builtin.Range.rangeSize a b 1 = ((b - a).toNat : Int) := by
  unfold Builtin.Range.rangeSize
  rw [if_pos (by decide)]
  split
  · rw [Int.ediv_one]; exact om_305 ‹_›
  · exact om_306 ‹_›
theorem small_one {a b : Int} (ha : a.natAbs < 4294967296) (hb : b.natAbs < 4294967296) : Builtin.Range.small a b 1 = true := by
  have hr := rangeSize_one a b
  unfold Builtin.Range.small Builtin.Range.rangeFitsLong
  rw [hr]
  simp only [Bool.and_eq_true, decide_eq_true_eq, Bool.or_eq_true, gt_iff_lt]
  refine ⟨⟨⟨⟨⟨?_, ?_⟩, ⟨?_, ?_⟩⟩, ⟨?_, ?_⟩⟩, ⟨?_, ?_⟩⟩, .inr ?_⟩
  all_goals first | omega | (rw [if_pos (by decide)]; simp; exact om_307 hb)
theorem getI_range {Γ : Gam} {A : Around} {O : Own} {a b : Int} {K : Addr → Own → Prop} (ha : a.natAbs < 4294967296) (hb : b.natAbs < 4294967296) (q : ∀ I, K I ((I, .iter (rangeFrom a 1 (b - a).toNat)) :: O)) : GetI Γ A O (.rng a b 1) K := GetI.rng (small_one ha hb) (rangeSize_one a b) q
section
variable {w : World} {mg mb : Str → Option Value} {os : OsState} {A : Around} {O : Own}
theorem attr264 {name : Str} {d : D} {fs : List (Str × D)} {Q : D → Own → Prop} (ha : findIn (Γ1 w mg mb os).K (.ref 264) name = some none) (o : ObjOf O d 264 fs) (k : ∃ e, FAt fs name e ∧ HQ (Handed e) (Q e O)) : GetA (Γ1 w mg mb os) A O name d Q := let ⟨_, f, h, q⟩ := k; GetA.own o f (pg_264 w mg mb os name) (hd_264 w mg mb os) ha rfl h q
theorem attr184 {name : Str} {d : D} {fs : List (Str × D)} {Q : D → Own → Prop} (ha : findIn (Γ1 w mg mb os).K (.ref 184) name = some none) (o : ObjOf O d 184 fs) (k : ∃ e, FAt fs name e ∧ HQ (Handed e) (Q e O)) : GetA (Γ1 w mg mb os) A O name d Q := let ⟨_, f, h, q⟩ := k; GetA.own o f (pg_184 w mg mb os name) (hd_184 w mg mb os) ha rfl h q
theorem set264 {name : Str} {x dx : Addr} {e : D} {fs : List (Str × D)} {Q : Own → Prop} (ht : takerIn (Γ1 w mg mb os).K 264 name = some none) (m : (x, .obj 264 dx) ∈ O) (md : (dx, .dict fs) ∈ O) (hf : FNo fs name = true) (hz : fs.length ≤ 1000) (k : ∃ O', OUp O dx (.dict fs) (.dict (fs ++ [(name, e)])) O' ∧ Q O') : SetA (Γ1 w mg mb os) A O name (.v (.ref x)) e Q := let ⟨_, u, q⟩ := k; SetA.own m u hf hz (sa_264 w mg mb os) (po_264 w mg mb os) ht (hd_264 w mg mb os) q
theorem set184 {name : Str} {x dx : Addr} {e : D} {fs : List (Str × D)} {Q : Own → Prop} (ht : takerIn (Γ1 w mg mb os).K 184 name = some none) (m : (x, .obj 184 dx) ∈ O) (md : (dx, .dict fs) ∈ O) (hf : FNo fs name = true) (hz : fs.length ≤ 1000) (k : ∃ O', OUp O dx (.dict fs) (.dict (fs ++ [(name, e)])) O' ∧ Q O') : SetA (Γ1 w mg mb os) A O name (.v (.ref x)) e Q := let ⟨_, u, q⟩ := k; SetA.own m u hf hz (sa_184 w mg mb os) (po_184 w mg mb os) ht (hd_184 w mg mb os) q
theorem clsStr {K : Frag} {C mc : Value} {name x : Str} (h : (match findCls K C mc name with | some (.val (.str y _)) => y == x | _ => false) = true) : ∃ t, findCls K C mc name = some (.val (.str x t)) := by
  split at h
  · rename_i y t e; rw [e, eq_of_beq h]; exact ⟨t, rfl⟩
  · cases h
theorem clsS264 : ∃ t, findCls (Γ1 w mg mb os).K (.ref 264) (.type "type") "S" = some (.val (.str " " t)) := clsStr (by kernel_rfl)
theorem clsT264 : ∃ t, findCls (Γ1 w mg mb os).K (.ref 264) (.type "type") "T" = some (.val (.str "\t" t)) := clsStr (by kernel_rfl)
theorem rd264 : readsIn (Γ1 w mg mb os).K 264 (.type "type") = true := by kernel_rfl
theorem getS264 {Q : D → Own → Prop} (q : Q (.str " ") O) : GetA (Γ1 w mg mb os) A O "S" (.v (.ref 264)) Q := let ⟨t, e⟩ := clsS264 (w := w) (mg := mg) (mb := mb) (os := os); GetA.cls rd264 e rfl (fun g => .str _ _) q
theorem getT264 {Q : D → Own → Prop} (q : Q (.str "\t") O) : GetA (Γ1 w mg mb os) A O "T" (.v (.ref 264)) Q := let ⟨t, e⟩ := clsT264 (w := w) (mg := mg) (mb := mb) (os := os); GetA.cls rd264 e rfl (fun g => .str _ _) q
theorem meth264 {name : Str} {f : Addr} {d : D} {fs : List (Str × D)} {K : Value → List D → Own → Prop} (hf : findIn (Γ1 w mg mb os).K (.ref 264) name = some (some (.ref f))) (ht : typeIn (Γ1 w mg mb os).K (.ref f) = some (.type "function")) (o : ObjOf O d 264 fs) (hs : FNo fs name = true) (q : K (.ref f) [d] O) : GetM (Γ1 w mg mb os) A O name d K := GetM.inst o hs (pg_264 w mg mb os name) hf ht q
theorem meth184 {name : Str} {f : Addr} {d : D} {fs : List (Str × D)} {K : Value → List D → Own → Prop} (hf : findIn (Γ1 w mg mb os).K (.ref 184) name = some (some (.ref f))) (ht : typeIn (Γ1 w mg mb os).K (.ref f) = some (.type "function")) (o : ObjOf O d 184 fs) (hs : FNo fs name = true) (q : K (.ref f) [d] O) : GetM (Γ1 w mg mb os) A O name d K := GetM.inst o hs (pg_184 w mg mb os name) hf ht q
end
end Lw
end
section
namespace Lw
open PySem PySem.Calls PyProof.Rows PySem.W
theorem toPyL_map {α : Type} (f : α → D) (p : α → PyData) (h : ∀ a, toPy (f a) = some (p a)) : ∀ l : List α, toPyL (l.map f) = some (l.map p)
  | [] => by simp [toPyL]
  | a :: l => by simp [toPyL, h a, toPyL_map f p h l]
theorem canLayAll_map {α : Type} (p : α → PyData) (h : ∀ a, (p a).canLay0 = true) : ∀ l : List α, PyData.canLayAll0 (l.map p) = true
  | [] => by simp [PyData.canLayAll0]
  | a :: l => by simp [PyData.canLayAll0, h a, canLayAll_map p h l]
theorem depthAll_map {α : Type} (p : α → PyData) (h : ∀ a, (p a).depth ≤ 8) : ∀ l : List α, PyData.depthAll (l.map p) ≤ 8
  | [] => by simp [PyData.depthAll]
  | a :: l => by have := h a; have := depthAll_map p h l; simp only [List.map_cons, PyData.depthAll]; exact om_310 ‹_› this
theorem shaped_map {α : Type} (p : α → PyData) (h : ∀ a, (p a).canLay0 = true) (h2 : ∀ a, (p a).depth ≤ 8) (l : List α) : SeqAt.shaped (.list (l.map p)) = true := by
  have h3 := depthAll_map p h2 l
  have h4 := canLayAll_map p h l
  unfold SeqAt.shaped
  simp only [PyData.canLay0, PyData.depth, h4, Bool.true_and]
  exact decide_eq_true (by exact om_77 h3)
theorem eqvAll_self {α : Type} (p : α → PyData) (h : ∀ a, (p a).eqv (p a) = true) : ∀ l : List α, PyData.eqvAll (l.map p) (l.map p) = true
  | [] => by simp [PyData.eqvAll]
  | a :: l => by simp [PyData.eqvAll, h a, eqvAll_self p h l]
noncomputable abbrev prD (p : Int × Bool) : D := .tup [.int p.1, .bool p.2]
noncomputable abbrev prP (p : Int × Bool) : PyData := .tuple [.int p.1, .bool p.2]
theorem toPy_ints (l : List Int) : toPy (.lst (l.map .int)) = some (.list (l.map .int)) := by simp only [toPy, toPyL_map D.int PyData.int (fun a => by simp [toPy]) l, Option.map_some]
theorem shaped_ints (l : List Int) : SeqAt.shaped (.list (l.map .int)) = true := shaped_map _ (fun a => by simp [PyData.canLay0]) (fun a => by simp [PyData.depth]) l
section
variable {Γ : Gam} {A : Around} {env : Env} {ρ κ : Rho} {O : Own}
end
end Lw
end
section
namespace Lw
open PySem PySem.Calls PyProof.Rows PySem.W
theorem put_1 {p1 : Str × Option D} {x : Str} {od : Option D} {r : Rho} {d : D} {P : Rho → Prop} (q : P (p1::(x, some d)::r)) : Exists (KPut (p1::(x, od)::r) x d P) := ⟨_, .there (.here), q⟩
theorem put_2 {p1 p2 : Str × Option D} {x : Str} {od : Option D} {r : Rho} {d : D} {P : Rho → Prop} (q : P (p1::p2::(x, some d)::r)) : Exists (KPut (p1::p2::(x, od)::r) x d P) := ⟨_, .there (.there (.here)), q⟩
theorem put_3 {p1 p2 p3 : Str × Option D} {x : Str} {od : Option D} {r : Rho} {d : D} {P : Rho → Prop} (q : P (p1::p2::p3::(x, some d)::r)) : Exists (KPut (p1::p2::p3::(x, od)::r) x d P) := ⟨_, .there (.there (.there (.here))), q⟩
theorem put_4 {p1 p2 p3 p4 : Str × Option D} {x : Str} {od : Option D} {r : Rho} {d : D} {P : Rho → Prop} (q : P (p1::p2::p3::p4::(x, some d)::r)) : Exists (KPut (p1::p2::p3::p4::(x, od)::r) x d P) := ⟨_, .there (.there (.there (.there (.here)))), q⟩
theorem put_5 {p1 p2 p3 p4 p5 : Str × Option D} {x : Str} {od : Option D} {r : Rho} {d : D} {P : Rho → Prop} (q : P (p1::p2::p3::p4::p5::(x, some d)::r)) : Exists (KPut (p1::p2::p3::p4::p5::(x, od)::r) x d P) := ⟨_, .there (.there (.there (.there (.there (.here))))), q⟩
theorem put_6 {p1 p2 p3 p4 p5 p6 : Str × Option D} {x : Str} {od : Option D} {r : Rho} {d : D} {P : Rho → Prop} (q : P (p1::p2::p3::p4::p5::p6::(x, some d)::r)) : Exists (KPut (p1::p2::p3::p4::p5::p6::(x, od)::r) x d P) := ⟨_, .there (.there (.there (.there (.there (.there (.here)))))), q⟩
theorem put_7 {p1 p2 p3 p4 p5 p6 p7 : Str × Option D} {x : Str} {od : Option D} {r : Rho} {d : D} {P : Rho → Prop} (q : P (p1::p2::p3::p4::p5::p6::p7::(x, some d)::r)) : Exists (KPut (p1::p2::p3::p4::p5::p6::p7::(x, od)::r) x d P) := ⟨_, .there (.there (.there (.there (.there (.there (.there (.here))))))), q⟩
theorem put_8 {p1 p2 p3 p4 p5 p6 p7 p8 : Str × Option D} {x : Str} {od : Option D} {r : Rho} {d : D} {P : Rho → Prop} (q : P (p1::p2::p3::p4::p5::p6::p7::p8::(x, some d)::r)) : Exists (KPut (p1::p2::p3::p4::p5::p6::p7::p8::(x, od)::r) x d P) := ⟨_, .there (.there (.there (.there (.there (.there (.there (.there (.here)))))))), q⟩
theorem put_9 {p1 p2 p3 p4 p5 p6 p7 p8 p9 : Str × Option D} {x : Str} {od : Option D} {r : Rho} {d : D} {P : Rho → Prop} (q : P (p1::p2::p3::p4::p5::p6::p7::p8::p9::(x, some d)::r)) : Exists (KPut (p1::p2::p3::p4::p5::p6::p7::p8::p9::(x, od)::r) x d P) := ⟨_, .there (.there (.there (.there (.there (.there (.there (.there (.there (.here))))))))), q⟩
theorem put_10 {p1 p2 p3 p4 p5 p6 p7 p8 p9 p10 : Str × Option D} {x : Str} {od : Option D} {r : Rho} {d : D} {P : Rho → Prop} (q : P (p1::p2::p3::p4::p5::p6::p7::p8::p9::p10::(x, some d)::r)) : Exists (KPut (p1::p2::p3::p4::p5::p6::p7::p8::p9::p10::(x, od)::r) x d P) := ⟨_, .there (.there (.there (.there (.there (.there (.there (.there (.there (.there (.here)))))))))), q⟩
theorem put_11 {p1 p2 p3 p4 p5 p6 p7 p8 p9 p10 p11 : Str × Option D} {x : Str} {od : Option D} {r : Rho} {d : D} {P : Rho → Prop} (q : P (p1::p2::p3::p4::p5::p6::p7::p8::p9::p10::p11::(x, some d)::r)) : Exists (KPut (p1::p2::p3::p4::p5::p6::p7::p8::p9::p10::p11::(x, od)::r) x d P) := ⟨_, .there (.there (.there (.there (.there (.there (.there (.there (.there (.there (.there (.here))))))))))), q⟩
theorem put_12 {p1 p2 p3 p4 p5 p6 p7 p8 p9 p10 p11 p12 : Str × Option D} {x : Str} {od : Option D} {r : Rho} {d : D} {P : Rho → Prop} (q : P (p1::p2::p3::p4::p5::p6::p7::p8::p9::p10::p11::p12::(x, some d)::r)) : Exists (KPut (p1::p2::p3::p4::p5::p6::p7::p8::p9::p10::p11::p12::(x, od)::r) x d P) := ⟨_, .there (.there (.there (.there (.there (.there (.there (.there (.there (.there (.there (.there (.here)))))))))))), q⟩
theorem put_13 {p1 p2 p3 p4 p5 p6 p7 p8 p9 p10 p11 p12 p13 : Str × Option D} {x : Str} {od : Option D} {r : Rho} {d : D} {P : Rho → Prop} (q : P (p1::p2::p3::p4::p5::p6::p7::p8::p9::p10::p11::p12::p13::(x, some d)::r)) : Exists (KPut (p1::p2::p3::p4::p5::p6::p7::p8::p9::p10::p11::p12::p13::(x, od)::r) x d P) := ⟨_, .there (.there (.there (.there (.there (.there (.there (.there (.there (.there (.there (.there (.there (.here))))))))))))), q⟩
theorem put_14 {p1 p2 p3 p4 p5 p6 p7 p8 p9 p10 p11 p12 p13 p14 : Str × Option D} {x : Str} {od : Option D} {r : Rho} {d : D} {P : Rho → Prop} (q : P (p1::p2::p3::p4::p5::p6::p7::p8::p9::p10::p11::p12::p13::p14::(x, some d)::r)) : Exists (KPut (p1::p2::p3::p4::p5::p6::p7::p8::p9::p10::p11::p12::p13::p14::(x, od)::r) x d P) := ⟨_, .there (.there (.there (.there (.there (.there (.there (.there (.there (.there (.there (.there (.there (.there (.here)))))))))))))), q⟩
theorem put_15 {p1 p2 p3 p4 p5 p6 p7 p8 p9 p10 p11 p12 p13 p14 p15 : Str × Option D} {x : Str} {od : Option D} {r : Rho} {d : D} {P : Rho → Prop} (q : P (p1::p2::p3::p4::p5::p6::p7::p8::p9::p10::p11::p12::p13::p14::p15::(x, some d)::r)) : Exists (KPut (p1::p2::p3::p4::p5::p6::p7::p8::p9::p10::p11::p12::p13::p14::p15::(x, od)::r) x d P) := ⟨_, .there (.there (.there (.there (.there (.there (.there (.there (.there (.there (.there (.there (.there (.there (.there (.here))))))))))))))), q⟩
theorem put_16 {p1 p2 p3 p4 p5 p6 p7 p8 p9 p10 p11 p12 p13 p14 p15 p16 : Str × Option D} {x : Str} {od : Option D} {r : Rho} {d : D} {P : Rho → Prop} (q : P (p1::p2::p3::p4::p5::p6::p7::p8::p9::p10::p11::p12::p13::p14::p15::p16::(x, some d)::r)) : Exists (KPut (p1::p2::p3::p4::p5::p6::p7::p8::p9::p10::p11::p12::p13::p14::p15::p16::(x, od)::r) x d P) := ⟨_, .there (.there (.there (.there (.there (.there (.there (.there (.there (.there (.there (.there (.there (.there (.there (.there (.here)))))))))))))))), q⟩
theorem put_17 {p1 p2 p3 p4 p5 p6 p7 p8 p9 p10 p11 p12 p13 p14 p15 p16 p17 : Str × Option D} {x : Str} {od : Option D} {r : Rho} {d : D} {P : Rho → Prop} (q : P (p1::p2::p3::p4::p5::p6::p7::p8::p9::p10::p11::p12::p13::p14::p15::p16::p17::(x, some d)::r)) : Exists (KPut (p1::p2::p3::p4::p5::p6::p7::p8::p9::p10::p11::p12::p13::p14::p15::p16::p17::(x, od)::r) x d P) := ⟨_, .there (.there (.there (.there (.there (.there (.there (.there (.there (.there (.there (.there (.there (.there (.there (.there (.there (.here))))))))))))))))), q⟩
theorem put_18 {p1 p2 p3 p4 p5 p6 p7 p8 p9 p10 p11 p12 p13 p14 p15 p16 p17 p18 : Str × Option D} {x : Str} {od : Option D} {r : Rho} {d : D} {P : Rho → Prop} (q : P (p1::p2::p3::p4::p5::p6::p7::p8::p9::p10::p11::p12::p13::p14::p15::p16::p17::p18::(x, some d)::r)) : Exists (KPut (p1::p2::p3::p4::p5::p6::p7::p8::p9::p10::p11::p12::p13::p14::p15::p16::p17::p18::(x, od)::r) x d P) := ⟨_, .there (.there (.there (.there (.there (.there (.there (.there (.there (.there (.there (.there (.there (.there (.there (.there (.there (.there (.here)))))))))))))))))), q⟩
theorem put_19 {p1 p2 p3 p4 p5 p6 p7 p8 p9 p10 p11 p12 p13 p14 p15 p16 p17 p18 p19 : Str × Option D} {x : Str} {od : Option D} {r : Rho} {d : D} {P : Rho → Prop} (q : P (p1::p2::p3::p4::p5::p6::p7::p8::p9::p10::p11::p12::p13::p14::p15::p16::p17::p18::p19::(x, some d)::r)) : Exists (KPut (p1::p2::p3::p4::p5::p6::p7::p8::p9::p10::p11::p12::p13::p14::p15::p16::p17::p18::p19::(x, od)::r) x d P) := ⟨_, .there (.there (.there (.there (.there (.there (.there (.there (.there (.there (.there (.there (.there (.there (.there (.there (.there (.there (.there (.here))))))))))))))))))), q⟩
theorem put_20 {p1 p2 p3 p4 p5 p6 p7 p8 p9 p10 p11 p12 p13 p14 p15 p16 p17 p18 p19 p20 : Str × Option D} {x : Str} {od : Option D} {r : Rho} {d : D} {P : Rho → Prop} (q : P (p1::p2::p3::p4::p5::p6::p7::p8::p9::p10::p11::p12::p13::p14::p15::p16::p17::p18::p19::p20::(x, some d)::r)) : Exists (KPut (p1::p2::p3::p4::p5::p6::p7::p8::p9::p10::p11::p12::p13::p14::p15::p16::p17::p18::p19::p20::(x, od)::r) x d P) := ⟨_, .there (.there (.there (.there (.there (.there (.there (.there (.there (.there (.there (.there (.there (.there (.there (.there (.there (.there (.there (.there (.here)))))))))))))))))))), q⟩
theorem put_21 {p1 p2 p3 p4 p5 p6 p7 p8 p9 p10 p11 p12 p13 p14 p15 p16 p17 p18 p19 p20 p21 : Str × Option D} {x : Str} {od : Option D} {r : Rho} {d : D} {P : Rho → Prop} (q : P (p1::p2::p3::p4::p5::p6::p7::p8::p9::p10::p11::p12::p13::p14::p15::p16::p17::p18::p19::p20::p21::(x, some d)::r)) : Exists (KPut (p1::p2::p3::p4::p5::p6::p7::p8::p9::p10::p11::p12::p13::p14::p15::p16::p17::p18::p19::p20::p21::(x, od)::r) x d P) := ⟨_, .there (.there (.there (.there (.there (.there (.there (.there (.there (.there (.there (.there (.there (.there (.there (.there (.there (.there (.there (.there (.there (.here))))))))))))))))))))), q⟩
end Lw
end
section
namespace Lw
open PySem PySem.Calls PyProof.Rows PySem.W
inductive Frz (a : Addr) (xs : List D) : Rho → Rho → Prop
  | nil : Frz a xs [] []
  | keep {p : Str × Option D} {r r' : Rho} : Frz a xs r r' → Frz a xs (p :: r) (p :: r')
  | frz {x : Str} {r r' : Rho} : Frz a xs r r' → Frz a xs ((x, some (.v (.ref a))) :: r) ((x, some (.lst xs)) :: r')
theorem Frz.refl {a : Addr} {xs : List D} : ∀ {r : Rho}, Frz a xs r r
  | [] => .nil
  | _ :: _ => .keep .refl
theorem Frz.keys {a : Addr} {xs : List D} {r r' : Rho} (h : Frz a xs r r') : r'.map (·.1) = r.map (·.1) := by
  induction h with
  | nil => rfl
  | keep _ ih => rw [List.map_cons, List.map_cons, ih]
  | frz _ ih => rw [List.map_cons, List.map_cons, ih]
theorem Frz.mem {a : Addr} {xs : List D} {r r' : Rho} (h : Frz a xs r r') {x : Str} {od : Option D} (m : (x, od) ∈ r') : (x, od) ∈ r ∨ (od = some (.lst xs) ∧ (x, some (.v (.ref a))) ∈ r) := by
  induction h with
  | nil => exact .inl m
  | keep _ ih =>
    rcases List.mem_cons.mp m with q | q
    · exact .inl (q ▸ .head _)
    · exact (ih q).imp (.tail _) fun ⟨u, v⟩ => ⟨u, .tail _ v⟩
  | frz _ ih =>
    rcases List.mem_cons.mp m with q | q
    · cases q; exact .inr ⟨rfl, .head _⟩
    · exact (ih q).imp (.tail _) fun ⟨u, v⟩ => ⟨u, .tail _ v⟩
section
variable {Γ : Gam} {A : Around} {env : Env} {ρ κ : Rho} {O : Own}
theorem Frm.freeze {g g' h : Heap} {O' : Own} {ρ' κ' : Rho} {a : Addr} {xs : List D} (F : Frm env g h O ρ κ) (u : Sub g g') (hin : In g' (.ref a) (.lst xs)) (hn : ∀ b, g'.get? b ≠ none → g.get? b ≠ none ∨ b = a) (ha : dom O a) (l : ∀ b, dom O' b → dom O b) (hρ : Frz a xs ρ ρ') (hκ : Frz a xs κ κ') : Frm env g' h O' ρ' κ' := by
  have nn : ∀ b, g.get? b = none → ¬ dom O b → g'.get? b = none := fun b h1 h2 => by
    cases q : g'.get? b with
    | none => rfl
    | some o =>
      rcases hn b (by rw [q]; exact fun z => nomatch z) with z | z
      · exact absurd h1 z
      · exact absurd (z ▸ ha) h2
  have key : ∀ {x : Str}, x ∈ ρ'.map (·.1) → ∃ q ∈ ρ, q.1 = x := fun {x} hx => by
    rw [hρ.keys] at hx
    obtain ⟨q, hq, e⟩ := List.mem_map.mp hx
    exact ⟨q, hq, e⟩
  obtain ⟨m, hm, hr⟩ := F.loc
  refine ⟨F.kind, F.glob, F.bi, ⟨m, hm, fun x d hx => ?_⟩, fun p hp => ?_, by rw [hρ.keys]; exact F.nd, nn _ F.gl F.lo, fun x => F.lo (l _ x), fun p hp => ?_, fun p hp => ?_, by rw [hκ.keys]; exact F.cnd, fun p hp q hq e => ?_⟩
  · rcases hρ.mem hx with z | ⟨z1, z2⟩
    · obtain ⟨v, a1, b1⟩ := hr x d z
      exact ⟨v, a1, b1.up u⟩
    · cases z1
      obtain ⟨v, a1, b1⟩ := hr x _ z2
      cases b1
      exact ⟨_, a1, hin⟩
  · obtain ⟨q, hq, e⟩ := key (List.mem_map_of_mem (f := (·.1)) hp)
    exact e ▸ F.lk q hq
  · have : p.1 ∈ κ'.map (·.1) := List.mem_map_of_mem hp
    rw [hκ.keys] at this
    obtain ⟨q, hq, e⟩ := List.mem_map.mp this
    exact e ▸ F.ck q hq
  · rcases hκ.mem (x := p.1) (od := p.2) hp with z | ⟨z1, z2⟩
    · obtain ⟨h1, ca, h2, h3, h4, h5, ov, hc, h6⟩ := F.cel _ z
      refine ⟨h1, ca, h2, nn _ h3 h4, fun x => h4 (l _ x), h5, ov, hc, fun d hd => ?_⟩
      obtain ⟨v, a1, b1⟩ := h6 d hd
      exact ⟨v, a1, b1.up u⟩
    · obtain ⟨h1, ca, h2, h3, h4, h5, ov, hc, h6⟩ := F.cel _ z2
      refine ⟨h1, ca, h2, nn _ h3 h4, fun x => h4 (l _ x), h5, ov, hc, fun d hd => ?_⟩
      rw [z1] at hd
      cases hd
      obtain ⟨v, a1, b1⟩ := h6 _ rfl
      cases b1
      exact ⟨_, a1, hin⟩
  · have hp' : p.1 ∈ κ'.map (·.1) := List.mem_map_of_mem hp
    have hq' : q.1 ∈ κ'.map (·.1) := List.mem_map_of_mem hq
    rw [hκ.keys] at hp' hq'
    obtain ⟨p', hp', e1⟩ := List.mem_map.mp hp'
    obtain ⟨q', hq', e2⟩ := List.mem_map.mp hq'
    rw [← e1, ← e2] at e ⊢
    exact F.cin p' hp' q' hq' e
theorem Exs.frz {a : Addr} {xs : List D} {P : Own} {ρ' κ' : Rho} {t : Sem Flow} {Q : Fl → Rho → Rho → Own → Prop} (hos : OS ((a, .list xs) :: P) O) (hρ : Frz a xs ρ ρ') (hκ : Frz a xs κ κ') (h : Exs Γ A env ρ' κ' P t Q) : Exs Γ A env ρ κ O t Q := fun g s ok F => by
  have ok₂ := hos.okb ok
  obtain ⟨⟨vs, n, e, i⟩, hn⟩ := ok₂.own _ (.head _)
  obtain ⟨g', k1, k2, k3, k4⟩ := grow ok₂.keep e
  have nd := ok₂.nd
  rw [List.map_cons, List.nodup_cons] at nd
  have off : ∀ p ∈ P, p.1 ≠ a := fun p hp q => nd.1 (q ▸ List.mem_map_of_mem (f := (·.1)) hp)
  have okP : Okb Γ g' s P := ⟨k3, ok.gam.up k1, fun p hp => by
    obtain ⟨x, y⟩ := ok₂.own p (.tail _ hp)
    exact ⟨x.up k1, by rw [k4 _ (off p hp)]; exact y⟩, nd.2, ok.gens, ok.os⟩
  have da : dom O a := hos.dom a (.head _)
  have dP : ∀ b, dom P b → dom O b := fun b hb => hos.dom b (.tail _ hb)
  have F' : Frm env g' s.heap P ρ' κ' := F.freeze k1 (.lst k2 (i.up k1)) (fun b hb => by
    by_cases q : b = a
    · exact .inr q
    · rw [k4 b q] at hb; exact .inl hb) da dP hρ hκ
  have G : Gs Γ env g s κ O g' s ρ' κ' P := ⟨okP, F', ⟨fun b o e _ => e, k1, fun b o e n => by
    by_cases q : b = a
    · exact .inr (.inr (.inr (q ▸ da)))
    · rw [k4 b q, n] at e; cases e⟩, fun b hb => .inl (dP b hb), hκ.keys⟩
  exact Fx.after G (h g' s okP F')
noncomputable abbrev KStp (R K : Rho) (W : Own) : Fl → Rho → Rho → Own → Prop := fun f ρ κ O => f = .next ∧ ρ = R ∧ κ = K ∧ OS W O
theorem Ss.step {st : Stmt} {rest : List Stmt} {Q : Fl → Rho → Rho → Own → Prop} (R K : Rho) (W : Own) (h : S1 Γ A env ρ κ O st (KStp R K W)) (h2 : Ss Γ A env R K W rest Q) : Ss Γ A env ρ κ O (st :: rest) Q :=
  Ss.cons (Exs.mono h fun f ρ' κ' O' ⟨e1, e2, e3, e4⟩ => by
    subst e1 e2 e3
    exact Exs.weak .refl e4 h2)
end
end Lw
end
section
namespace Lw
open PySem PySem.Calls PyProof.Rows PySem.W
section
variable {Γ : Gam} {A : Around} {O : Own}
theorem Op2.mulLZ {x : D} {e : D} {k : Int} {Q : D → Own → Prop} (l : LstOf O x [e]) (h0 : -1000000 ≤ k) (h1 : k ≤ 1000000) (q : Q (.lst (List.replicate k.toNat e)) O) : Op2 Γ A O (binaryOp .Mult) x (.int k) Q := fun g s v w ok i j => by
  obtain ⟨a, vs, n, rfl, he, r⟩ := l.at ok i
  cases j
  obtain ⟨v1, hv1, i1⟩ := r.one
  obtain ⟨vl⟩ := vs
  dsimp only at hv1
  subst hv1
  have hsz : (Array.mk [v1]).size = 1 := rfl
  refine wpAny_binaryOp_repeat_ref (T := "list") (U := "int") (by decide) ⟨_, he, rfl⟩ (fun s' => typeIs_int s' k _) noFill_list_mul F.fills_int_mul F.slot_int_rmul repeat_list F.slot_int_index.lookup
    (call_meets F.slot_int_rmul (typeIs_int s k _) F.entry_int_rmul (F.args_int_rmul_2 _ _) (int___rmul___int_list k _ a _ n)
      ⟨he, rfl, ⟨_, he, rfl⟩, call_meets F.slot_list_mul ⟨_, he, rfl⟩ F.entry_list_mul (F.args_list_mul_2 _ _)
        (AutoListH.list___mul___list_int_3 a _ n k _ (by simp [Builtin.List.listFitsIndex]; exact om_180 h0 h1) (by rw [hsz]; exact om_181 h0 h1) (by unfold Builtin.List.listTooLong sizeLine; rw [hsz]; simp; exact om_182 h0 h1))
        ⟨he, ?_⟩⟩)
  have hrep : ∀ (m : Nat), InL g (List.foldl (fun x1 x2 => x1 ++ x2) (#[] : Array Value) (List.replicate m #[v1])).toList (List.replicate m e) := by
    have : ∀ (m : Nat) (acc : Array Value) (ds : List D), InL g acc.toList ds → InL g (List.foldl (fun x1 x2 => x1 ++ x2) acc (List.replicate m #[v1])).toList (ds ++ List.replicate m e) := by
      intro m
      induction m with
      | zero => intro acc ds h; simpa using h
      | succ m ih =>
        intro acc ds h
        rw [List.replicate_succ, List.foldl_cons, List.replicate_succ]
        have := ih (acc ++ #[v1]) (ds ++ [e]) (by rw [Array.toList_append]; exact h.append (.cons i1 .nil))
        rwa [List.append_assoc] at this
    intro m
    simpa using this m #[] [] .nil
  obtain ⟨g', G, e'⟩ := Go.alloc (o := lstObj (List.foldl (fun x1 x2 => x1 ++ x2) #[] (List.replicate (if (#[v1] : Array Value).isEmpty = true then 0 else k.toNat) #[v1])) 0) ok rfl
  exact ⟨g', O, _, G, .lst e' ((hrep _).up G.to.up), by simpa using q⟩
end
end Lw
end
section
namespace Lw
open PySem PySem.Calls PyProof.Rows PySem.W
local macro_rules | `(tactic| nest_cls) => `(tactic| repeat (first | with_reducible exact List.mem_cons_self | with_reducible refine List.mem_cons_of_mem _ ?_))
local macro_rules | `(tactic| ktu_offL) => `(tactic| with_reducible refine putS ?_)
local macro_rules | `(tactic| lcg_sub) => `(tactic| first | with_reducible exact m_148 _ _ _ _ | with_reducible exact m_174 _ _ _ _ | with_reducible exact m_181 _ _ _ _ | with_reducible exact m_83 _ _ _ _ | with_reducible exact m_131 _ _ _ _ | with_reducible exact m_148 _ _ _ _)
local macro_rules | `(tactic| lcg_off) => `(tactic| first | with_reducible exact ty_148 _ _ _ _ | with_reducible exact ty_174 _ _ _ _ | with_reducible exact ty_181 _ _ _ _ | with_reducible exact ty_83 _ _ _ _ | with_reducible exact ty_131 _ _ _ _ | with_reducible exact ty_148 _ _ _ _)
section
variable (w : World) (mg mb : Str → Option Value) (os : OsState)
noncomputable def hsvPick (j : Int) (v p q t : UInt64) : Option (UInt64 × UInt64 × UInt64) :=
  if (j == 0) = true then some (v, t, p) else if (j == 1) = true then some (q, v, p) else if (j == 2) = true then some (p, v, t) else if (j == 3) = true then some (p, q, v) else if (j == 4) = true then some (t, p, v) else if (j == 5) = true then some (v, p, q) else none
noncomputable def hsvSpec (h s v : UInt64) : Option (UInt64 × UInt64 × UInt64) :=
  if (Float64.cmp s 0 == some .eq) = true then some (v, v, v) else
  (ftrunc (Float64.mul h fSix)).bind fun i =>
    if i.natAbs < 1000 then
      hsvPick (i.fmod 6) v (Float64.mul v (Float64.sub fOne s)) (Float64.mul v (Float64.sub fOne (Float64.mul s (Float64.sub (Float64.mul h fSix) (Float64.ofInt i)))))
        (Float64.mul v (Float64.sub fOne (Float64.mul s (Float64.sub fOne (Float64.sub (Float64.mul h fSix) (Float64.ofInt i))))))
    else none
theorem c_hsv (h s v a b c : UInt64) (e : hsvSpec h s v = some (a, b, c)) : Cal (Γ1 w mg mb os) 1 (.ref 202) [.flt h, .flt s, .flt v] [] [] fun d O' => O' = [] ∧ d = .tup [.flt a, .flt b, .flt c] := by
  refine Cal.intro (params := ["h", "s", "v"]) (bds := [.flt h, .flt s, .flt v]) [("h", some (.flt h)), ("s", some (.flt s)), ("v", some (.flt v)), ("i", none), ("f", none), ("p", none), ("q", none), ("t", none)] [] rfl (by kernel_rfl) rfl ⟨rfl, rfl, rfl, rfl, rfl, rfl⟩
    (fun g s vs ks ok iv ik => ?_) (by decide +kernel) (by decide +kernel) (by decide +kernel) (by decide +kernel) (by kernel_rfl) (by kernel_rfl) fun A L room => ?_
  · obtain ⟨x, y, z, rfl, i, j, k⟩ := iv.three
    exact ⟨[x, y, z], .of_eq (by kernel_rfl), iv⟩
  · unfold hsvSpec at e
    by_cases h0 : (Float64.cmp s 0 == some .eq) = true
    · rw [if_pos h0] at e
      cases e
      (with_reducible refine Ss.cons ?_; refine S1.ite ?_; refine' Te.cmp ?_ ?z3hm); (case z3hm => rfl); (with_reducible refine' Ev.loc ?z4h ?_); (case z4h => nest_cls); (with_reducible refine Ev.flt ?_; refine Op2.eqF ?_; refine Tr.bool ?_; refine ite_t (by with_reducible assumption) ?_; refine Ss.cons ?_; refine S1.ret ?_; refine Ev.tup ?_; refine' Evs.cons ?_ ?z12he); (case z12he => rfl); (with_reducible refine' Ev.loc ?z13h ?_); (case z13h => nest_cls); (with_reducible refine' Evs.cons ?_ ?z14he); (case z14he => rfl); (with_reducible refine' Ev.loc ?z15h ?_); (case z15h => nest_cls); (with_reducible refine' Evs.cons ?_ ?z16he); (case z16he => rfl); (with_reducible refine' Ev.loc ?z17h ?_); (case z17h => nest_cls); (with_reducible refine Evs.nil ?_; refine And.intro (Nat.le_of_ble_eq_true rfl) ?_)
      exact ⟨_, .ret, rfl, rfl⟩
    · rw [if_neg h0] at e
      obtain ⟨i, hi, e⟩ := Option.bind_eq_some_iff.mp e
      by_cases hz : i.natAbs < 1000
      · rw [if_pos hz] at e
        unfold hsvPick at e
        by_cases j0 : (i.fmod 6 == 0) = true
        · rw [if_pos j0] at e; cases e
          (with_reducible refine Ss.cons ?_; refine S1.ite ?_; refine' Te.cmp ?_ ?z22hm); (case z22hm => rfl); (with_reducible refine' Ev.loc ?z23h ?_); (case z23h => nest_cls); (with_reducible refine Ev.flt ?_; refine Op2.eqF ?_; refine Tr.bool ?_; refine ite_f (by with_reducible assumption) ?_; refine Ss.nil ?_; refine Ss.cons ?_; refine' S1.asL ?_ ?z30hs); (case z30hs => rfl); (with_reducible refine' Ev.call ?_ ?z31hp); (case z31hp => intro _; rfl); (with_reducible refine' Ev.bui ?z32h ?_ ?z32hx); (case z32h => with_reducible exact b_int _ _ _ _); (case z32hx => kernel_rfl); (with_reducible refine' ⟨_, rfl, ?z33k, ?_⟩); (case z33k => with_reducible exact Kp.typ); (with_reducible refine' Evs.cons ?_ ?z34he); (case z34he => rfl); (with_reducible refine Ev.bin ?_; refine' Ev.loc ?z36h ?_); (case z36h => nest_cls); (with_reducible refine Ev.flt ?_; refine Op2.mulF ?_; refine Evs.nil ?_; refine Ca.intF (by with_reducible assumption) ?_; refine put_3 ?_; refine Ss.cons ?_; refine' S1.asL ?_ ?z46hs); (case z46hs => rfl); (with_reducible refine Ev.bin ?_; refine Ev.bin ?_; refine' Ev.loc ?z49h ?_); (case z49h => nest_cls); (with_reducible refine Ev.flt ?_; refine Op2.mulF ?_; refine' Ev.loc ?z52h ?_); (case z52h => nest_cls); (with_reducible refine Op2.subFI (fit3 (by with_reducible assumption)) ?_; refine put_4 ?_; refine Ss.cons ?_; refine' S1.asL ?_ ?z60hs); (case z60hs => rfl); (with_reducible refine Ev.bin ?_; refine' Ev.loc ?z62h ?_); (case z62h => nest_cls); (with_reducible refine Ev.bin ?_; refine Ev.flt ?_; refine' Ev.loc ?z65h ?_); (case z65h => nest_cls); (with_reducible refine Op2.subF ?_; refine Op2.mulF ?_; refine put_5 ?_; refine Ss.cons ?_; refine' S1.asL ?_ ?z75hs); (case z75hs => rfl); (with_reducible refine Ev.bin ?_; refine' Ev.loc ?z77h ?_); (case z77h => nest_cls); (with_reducible refine Ev.bin ?_; refine Ev.flt ?_; refine Ev.bin ?_; refine' Ev.loc ?z81h ?_); (case z81h => nest_cls); (with_reducible refine' Ev.loc ?z82h ?_); (case z82h => nest_cls); (with_reducible refine Op2.mulF ?_; refine Op2.subF ?_; refine Op2.mulF ?_; refine put_6 ?_; refine Ss.cons ?_; refine' S1.asL ?_ ?z94hs); (case z94hs => rfl); (with_reducible refine Ev.bin ?_; refine' Ev.loc ?z96h ?_); (case z96h => nest_cls); (with_reducible refine Ev.bin ?_; refine Ev.flt ?_; refine Ev.bin ?_; refine' Ev.loc ?z100h ?_); (case z100h => nest_cls); (with_reducible refine Ev.bin ?_; refine Ev.flt ?_; refine' Ev.loc ?z103h ?_); (case z103h => nest_cls); (with_reducible refine Op2.subF ?_; refine Op2.mulF ?_; refine Op2.subF ?_; refine Op2.mulF ?_; refine put_7 ?_; refine Ss.cons ?_; refine' S1.asL ?_ ?z117hs); (case z117hs => rfl); (with_reducible refine Ev.bin ?_; refine' Ev.loc ?z119h ?_); (case z119h => nest_cls); (with_reducible refine Ev.int ?_; refine' Op2.modI ?z121h ?_); (case z121h => decide); (with_reducible refine put_3 ?_; refine Ss.cons ?_; refine S1.ite ?_; refine' Te.cmp ?_ ?z128hm); (case z128hm => rfl); (with_reducible refine' Ev.loc ?z129h ?_); (case z129h => nest_cls); (with_reducible refine Ev.int ?_; refine Op2.eqI ?_; refine Tr.bool ?_; refine ite_t (by with_reducible assumption) ?_; refine Ss.cons ?_; refine S1.ret ?_; refine Ev.tup ?_; refine' Evs.cons ?_ ?z137he); (case z137he => rfl); (with_reducible refine' Ev.loc ?z138h ?_); (case z138h => nest_cls); (with_reducible refine' Evs.cons ?_ ?z139he); (case z139he => rfl); (with_reducible refine' Ev.loc ?z140h ?_); (case z140h => nest_cls); (with_reducible refine' Evs.cons ?_ ?z141he); (case z141he => rfl); (with_reducible refine' Ev.loc ?z142h ?_); (case z142h => nest_cls); (with_reducible refine Evs.nil ?_; refine And.intro (Nat.le_of_ble_eq_true rfl) ?_)
          exact ⟨_, .ret, rfl, rfl⟩
        rw [if_neg j0] at e
        by_cases j1 : (i.fmod 6 == 1) = true
        · rw [if_pos j1] at e; cases e
          (with_reducible refine Ss.cons ?_; refine S1.ite ?_; refine' Te.cmp ?_ ?z147hm); (case z147hm => rfl); (with_reducible refine' Ev.loc ?z148h ?_); (case z148h => nest_cls); (with_reducible refine Ev.flt ?_; refine Op2.eqF ?_; refine Tr.bool ?_; refine ite_f (by with_reducible assumption) ?_; refine Ss.nil ?_; refine Ss.cons ?_; refine' S1.asL ?_ ?z155hs); (case z155hs => rfl); (with_reducible refine' Ev.call ?_ ?z156hp); (case z156hp => intro _; rfl); (with_reducible refine' Ev.bui ?z157h ?_ ?z157hx); (case z157h => with_reducible exact b_int _ _ _ _); (case z157hx => kernel_rfl); (with_reducible refine' ⟨_, rfl, ?z158k, ?_⟩); (case z158k => with_reducible exact Kp.typ); (with_reducible refine' Evs.cons ?_ ?z159he); (case z159he => rfl); (with_reducible refine Ev.bin ?_; refine' Ev.loc ?z161h ?_); (case z161h => nest_cls); (with_reducible refine Ev.flt ?_; refine Op2.mulF ?_; refine Evs.nil ?_; refine Ca.intF (by with_reducible assumption) ?_; refine put_3 ?_; refine Ss.cons ?_; refine' S1.asL ?_ ?z171hs); (case z171hs => rfl); (with_reducible refine Ev.bin ?_; refine Ev.bin ?_; refine' Ev.loc ?z174h ?_); (case z174h => nest_cls); (with_reducible refine Ev.flt ?_; refine Op2.mulF ?_; refine' Ev.loc ?z177h ?_); (case z177h => nest_cls); (with_reducible refine Op2.subFI (fit3 (by with_reducible assumption)) ?_; refine put_4 ?_; refine Ss.cons ?_; refine' S1.asL ?_ ?z185hs); (case z185hs => rfl); (with_reducible refine Ev.bin ?_; refine' Ev.loc ?z187h ?_); (case z187h => nest_cls); (with_reducible refine Ev.bin ?_; refine Ev.flt ?_; refine' Ev.loc ?z190h ?_); (case z190h => nest_cls); (with_reducible refine Op2.subF ?_; refine Op2.mulF ?_; refine put_5 ?_; refine Ss.cons ?_; refine' S1.asL ?_ ?z200hs); (case z200hs => rfl); (with_reducible refine Ev.bin ?_; refine' Ev.loc ?z202h ?_); (case z202h => nest_cls); (with_reducible refine Ev.bin ?_; refine Ev.flt ?_; refine Ev.bin ?_; refine' Ev.loc ?z206h ?_); (case z206h => nest_cls); (with_reducible refine' Ev.loc ?z207h ?_); (case z207h => nest_cls); (with_reducible refine Op2.mulF ?_; refine Op2.subF ?_; refine Op2.mulF ?_; refine put_6 ?_; refine Ss.cons ?_; refine' S1.asL ?_ ?z219hs); (case z219hs => rfl); (with_reducible refine Ev.bin ?_; refine' Ev.loc ?z221h ?_); (case z221h => nest_cls); (with_reducible refine Ev.bin ?_; refine Ev.flt ?_; refine Ev.bin ?_; refine' Ev.loc ?z225h ?_); (case z225h => nest_cls); (with_reducible refine Ev.bin ?_; refine Ev.flt ?_; refine' Ev.loc ?z228h ?_); (case z228h => nest_cls); (with_reducible refine Op2.subF ?_; refine Op2.mulF ?_; refine Op2.subF ?_; refine Op2.mulF ?_; refine put_7 ?_; refine Ss.cons ?_; refine' S1.asL ?_ ?z242hs); (case z242hs => rfl); (with_reducible refine Ev.bin ?_; refine' Ev.loc ?z244h ?_); (case z244h => nest_cls); (with_reducible refine Ev.int ?_; refine' Op2.modI ?z246h ?_); (case z246h => decide); (with_reducible refine put_3 ?_; refine Ss.cons ?_; refine S1.ite ?_; refine' Te.cmp ?_ ?z253hm); (case z253hm => rfl); (with_reducible refine' Ev.loc ?z254h ?_); (case z254h => nest_cls); (with_reducible refine Ev.int ?_; refine Op2.eqI ?_; refine Tr.bool ?_; refine ite_f (by with_reducible assumption) ?_; refine Ss.nil ?_; refine Ss.cons ?_; refine S1.ite ?_; refine' Te.cmp ?_ ?z262hm); (case z262hm => rfl); (with_reducible refine' Ev.loc ?z263h ?_); (case z263h => nest_cls); (with_reducible refine Ev.int ?_; refine Op2.eqI ?_; refine Tr.bool ?_; refine ite_t (by with_reducible assumption) ?_; refine Ss.cons ?_; refine S1.ret ?_; refine Ev.tup ?_; refine' Evs.cons ?_ ?z271he); (case z271he => rfl); (with_reducible refine' Ev.loc ?z272h ?_); (case z272h => nest_cls); (with_reducible refine' Evs.cons ?_ ?z273he); (case z273he => rfl); (with_reducible refine' Ev.loc ?z274h ?_); (case z274h => nest_cls); (with_reducible refine' Evs.cons ?_ ?z275he); (case z275he => rfl); (with_reducible refine' Ev.loc ?z276h ?_); (case z276h => nest_cls); (with_reducible refine Evs.nil ?_; refine And.intro (Nat.le_of_ble_eq_true rfl) ?_)
          exact ⟨_, .ret, rfl, rfl⟩
        rw [if_neg j1] at e
        by_cases j2 : (i.fmod 6 == 2) = true
        · rw [if_pos j2] at e; cases e
          (with_reducible refine Ss.cons ?_; refine S1.ite ?_; refine' Te.cmp ?_ ?z281hm); (case z281hm => rfl); (with_reducible refine' Ev.loc ?z282h ?_); (case z282h => nest_cls); (with_reducible refine Ev.flt ?_; refine Op2.eqF ?_; refine Tr.bool ?_; refine ite_f (by with_reducible assumption) ?_; refine Ss.nil ?_; refine Ss.cons ?_; refine' S1.asL ?_ ?z289hs); (case z289hs => rfl); (with_reducible refine' Ev.call ?_ ?z290hp); (case z290hp => intro _; rfl); (with_reducible refine' Ev.bui ?z291h ?_ ?z291hx); (case z291h => with_reducible exact b_int _ _ _ _); (case z291hx => kernel_rfl); (with_reducible refine' ⟨_, rfl, ?z292k, ?_⟩); (case z292k => with_reducible exact Kp.typ); (with_reducible refine' Evs.cons ?_ ?z293he); (case z293he => rfl); (with_reducible refine Ev.bin ?_; refine' Ev.loc ?z295h ?_); (case z295h => nest_cls); (with_reducible refine Ev.flt ?_; refine Op2.mulF ?_; refine Evs.nil ?_; refine Ca.intF (by with_reducible assumption) ?_; refine put_3 ?_; refine Ss.cons ?_; refine' S1.asL ?_ ?z305hs); (case z305hs => rfl); (with_reducible refine Ev.bin ?_; refine Ev.bin ?_; refine' Ev.loc ?z308h ?_); (case z308h => nest_cls); (with_reducible refine Ev.flt ?_; refine Op2.mulF ?_; refine' Ev.loc ?z311h ?_); (case z311h => nest_cls); (with_reducible refine Op2.subFI (fit3 (by with_reducible assumption)) ?_; refine put_4 ?_; refine Ss.cons ?_; refine' S1.asL ?_ ?z319hs); (case z319hs => rfl); (with_reducible refine Ev.bin ?_; refine' Ev.loc ?z321h ?_); (case z321h => nest_cls); (with_reducible refine Ev.bin ?_; refine Ev.flt ?_; refine' Ev.loc ?z324h ?_); (case z324h => nest_cls); (with_reducible refine Op2.subF ?_; refine Op2.mulF ?_; refine put_5 ?_; refine Ss.cons ?_; refine' S1.asL ?_ ?z334hs); (case z334hs => rfl); (with_reducible refine Ev.bin ?_; refine' Ev.loc ?z336h ?_); (case z336h => nest_cls); (with_reducible refine Ev.bin ?_; refine Ev.flt ?_; refine Ev.bin ?_; refine' Ev.loc ?z340h ?_); (case z340h => nest_cls); (with_reducible refine' Ev.loc ?z341h ?_); (case z341h => nest_cls); (with_reducible refine Op2.mulF ?_; refine Op2.subF ?_; refine Op2.mulF ?_; refine put_6 ?_; refine Ss.cons ?_; refine' S1.asL ?_ ?z353hs); (case z353hs => rfl); (with_reducible refine Ev.bin ?_; refine' Ev.loc ?z355h ?_); (case z355h => nest_cls); (with_reducible refine Ev.bin ?_; refine Ev.flt ?_; refine Ev.bin ?_; refine' Ev.loc ?z359h ?_); (case z359h => nest_cls); (with_reducible refine Ev.bin ?_; refine Ev.flt ?_; refine' Ev.loc ?z362h ?_); (case z362h => nest_cls); (with_reducible refine Op2.subF ?_; refine Op2.mulF ?_; refine Op2.subF ?_; refine Op2.mulF ?_; refine put_7 ?_; refine Ss.cons ?_; refine' S1.asL ?_ ?z376hs); (case z376hs => rfl); (with_reducible refine Ev.bin ?_; refine' Ev.loc ?z378h ?_); (case z378h => nest_cls); (with_reducible refine Ev.int ?_; refine' Op2.modI ?z380h ?_); (case z380h => decide); (with_reducible refine put_3 ?_; refine Ss.cons ?_; refine S1.ite ?_; refine' Te.cmp ?_ ?z387hm); (case z387hm => rfl); (with_reducible refine' Ev.loc ?z388h ?_); (case z388h => nest_cls); (with_reducible refine Ev.int ?_; refine Op2.eqI ?_; refine Tr.bool ?_; refine ite_f (by with_reducible assumption) ?_; refine Ss.nil ?_; refine Ss.cons ?_; refine S1.ite ?_; refine' Te.cmp ?_ ?z396hm); (case z396hm => rfl); (with_reducible refine' Ev.loc ?z397h ?_); (case z397h => nest_cls); (with_reducible refine Ev.int ?_; refine Op2.eqI ?_; refine Tr.bool ?_; refine ite_f (by with_reducible assumption) ?_; refine Ss.nil ?_; refine Ss.cons ?_; refine S1.ite ?_; refine' Te.cmp ?_ ?z405hm); (case z405hm => rfl); (with_reducible refine' Ev.loc ?z406h ?_); (case z406h => nest_cls); (with_reducible refine Ev.int ?_; refine Op2.eqI ?_; refine Tr.bool ?_; refine ite_t (by with_reducible assumption) ?_; refine Ss.cons ?_; refine S1.ret ?_; refine Ev.tup ?_; refine' Evs.cons ?_ ?z414he); (case z414he => rfl); (with_reducible refine' Ev.loc ?z415h ?_); (case z415h => nest_cls); (with_reducible refine' Evs.cons ?_ ?z416he); (case z416he => rfl); (with_reducible refine' Ev.loc ?z417h ?_); (case z417h => nest_cls); (with_reducible refine' Evs.cons ?_ ?z418he); (case z418he => rfl); (with_reducible refine' Ev.loc ?z419h ?_); (case z419h => nest_cls); (with_reducible refine Evs.nil ?_; refine And.intro (Nat.le_of_ble_eq_true rfl) ?_)
          exact ⟨_, .ret, rfl, rfl⟩
        rw [if_neg j2] at e
        by_cases j3 : (i.fmod 6 == 3) = true
        · rw [if_pos j3] at e; cases e
          (with_reducible refine Ss.cons ?_; refine S1.ite ?_; refine' Te.cmp ?_ ?z424hm); (case z424hm => rfl); (with_reducible refine' Ev.loc ?z425h ?_); (case z425h => nest_cls); (with_reducible refine Ev.flt ?_; refine Op2.eqF ?_; refine Tr.bool ?_; refine ite_f (by with_reducible assumption) ?_; refine Ss.nil ?_; refine Ss.cons ?_; refine' S1.asL ?_ ?z432hs); (case z432hs => rfl); (with_reducible refine' Ev.call ?_ ?z433hp); (case z433hp => intro _; rfl); (with_reducible refine' Ev.bui ?z434h ?_ ?z434hx); (case z434h => with_reducible exact b_int _ _ _ _); (case z434hx => kernel_rfl); (with_reducible refine' ⟨_, rfl, ?z435k, ?_⟩); (case z435k => with_reducible exact Kp.typ); (with_reducible refine' Evs.cons ?_ ?z436he); (case z436he => rfl); (with_reducible refine Ev.bin ?_; refine' Ev.loc ?z438h ?_); (case z438h => nest_cls); (with_reducible refine Ev.flt ?_; refine Op2.mulF ?_; refine Evs.nil ?_; refine Ca.intF (by with_reducible assumption) ?_; refine put_3 ?_; refine Ss.cons ?_; refine' S1.asL ?_ ?z448hs); (case z448hs => rfl); (with_reducible refine Ev.bin ?_; refine Ev.bin ?_; refine' Ev.loc ?z451h ?_); (case z451h => nest_cls); (with_reducible refine Ev.flt ?_; refine Op2.mulF ?_; refine' Ev.loc ?z454h ?_); (case z454h => nest_cls); (with_reducible refine Op2.subFI (fit3 (by with_reducible assumption)) ?_; refine put_4 ?_; refine Ss.cons ?_; refine' S1.asL ?_ ?z462hs); (case z462hs => rfl); (with_reducible refine Ev.bin ?_; refine' Ev.loc ?z464h ?_); (case z464h => nest_cls); (with_reducible refine Ev.bin ?_; refine Ev.flt ?_; refine' Ev.loc ?z467h ?_); (case z467h => nest_cls); (with_reducible refine Op2.subF ?_; refine Op2.mulF ?_; refine put_5 ?_; refine Ss.cons ?_; refine' S1.asL ?_ ?z477hs); (case z477hs => rfl); (with_reducible refine Ev.bin ?_; refine' Ev.loc ?z479h ?_); (case z479h => nest_cls); (with_reducible refine Ev.bin ?_; refine Ev.flt ?_; refine Ev.bin ?_; refine' Ev.loc ?z483h ?_); (case z483h => nest_cls); (with_reducible refine' Ev.loc ?z484h ?_); (case z484h => nest_cls); (with_reducible refine Op2.mulF ?_; refine Op2.subF ?_; refine Op2.mulF ?_; refine put_6 ?_; refine Ss.cons ?_; refine' S1.asL ?_ ?z496hs); (case z496hs => rfl); (with_reducible refine Ev.bin ?_; refine' Ev.loc ?z498h ?_); (case z498h => nest_cls); (with_reducible refine Ev.bin ?_; refine Ev.flt ?_; refine Ev.bin ?_; refine' Ev.loc ?z502h ?_); (case z502h => nest_cls); (with_reducible refine Ev.bin ?_; refine Ev.flt ?_; refine' Ev.loc ?z505h ?_); (case z505h => nest_cls); (with_reducible refine Op2.subF ?_; refine Op2.mulF ?_; refine Op2.subF ?_; refine Op2.mulF ?_; refine put_7 ?_; refine Ss.cons ?_; refine' S1.asL ?_ ?z519hs); (case z519hs => rfl); (with_reducible refine Ev.bin ?_; refine' Ev.loc ?z521h ?_); (case z521h => nest_cls); (with_reducible refine Ev.int ?_; refine' Op2.modI ?z523h ?_); (case z523h => decide); (with_reducible refine put_3 ?_; refine Ss.cons ?_; refine S1.ite ?_; refine' Te.cmp ?_ ?z530hm); (case z530hm => rfl); (with_reducible refine' Ev.loc ?z531h ?_); (case z531h => nest_cls); (with_reducible refine Ev.int ?_; refine Op2.eqI ?_; refine Tr.bool ?_; refine ite_f (by with_reducible assumption) ?_; refine Ss.nil ?_; refine Ss.cons ?_; refine S1.ite ?_; refine' Te.cmp ?_ ?z539hm); (case z539hm => rfl); (with_reducible refine' Ev.loc ?z540h ?_); (case z540h => nest_cls); (with_reducible refine Ev.int ?_; refine Op2.eqI ?_; refine Tr.bool ?_; refine ite_f (by with_reducible assumption) ?_; refine Ss.nil ?_; refine Ss.cons ?_; refine S1.ite ?_; refine' Te.cmp ?_ ?z548hm); (case z548hm => rfl); (with_reducible refine' Ev.loc ?z549h ?_); (case z549h => nest_cls); (with_reducible refine Ev.int ?_; refine Op2.eqI ?_; refine Tr.bool ?_; refine ite_f (by with_reducible assumption) ?_; refine Ss.nil ?_; refine Ss.cons ?_; refine S1.ite ?_; refine' Te.cmp ?_ ?z557hm); (case z557hm => rfl); (with_reducible refine' Ev.loc ?z558h ?_); (case z558h => nest_cls); (with_reducible refine Ev.int ?_; refine Op2.eqI ?_; refine Tr.bool ?_; refine ite_t (by with_reducible assumption) ?_; refine Ss.cons ?_; refine S1.ret ?_; refine Ev.tup ?_; refine' Evs.cons ?_ ?z566he); (case z566he => rfl); (with_reducible refine' Ev.loc ?z567h ?_); (case z567h => nest_cls); (with_reducible refine' Evs.cons ?_ ?z568he); (case z568he => rfl); (with_reducible refine' Ev.loc ?z569h ?_); (case z569h => nest_cls); (with_reducible refine' Evs.cons ?_ ?z570he); (case z570he => rfl); (with_reducible refine' Ev.loc ?z571h ?_); (case z571h => nest_cls); (with_reducible refine Evs.nil ?_; refine And.intro (Nat.le_of_ble_eq_true rfl) ?_)
          exact ⟨_, .ret, rfl, rfl⟩
        rw [if_neg j3] at e
        by_cases j4 : (i.fmod 6 == 4) = true
        · rw [if_pos j4] at e; cases e
          (with_reducible refine Ss.cons ?_; refine S1.ite ?_; refine' Te.cmp ?_ ?z576hm); (case z576hm => rfl); (with_reducible refine' Ev.loc ?z577h ?_); (case z577h => nest_cls); (with_reducible refine Ev.flt ?_; refine Op2.eqF ?_; refine Tr.bool ?_; refine ite_f (by with_reducible assumption) ?_; refine Ss.nil ?_; refine Ss.cons ?_; refine' S1.asL ?_ ?z584hs); (case z584hs => rfl); (with_reducible refine' Ev.call ?_ ?z585hp); (case z585hp => intro _; rfl); (with_reducible refine' Ev.bui ?z586h ?_ ?z586hx); (case z586h => with_reducible exact b_int _ _ _ _); (case z586hx => kernel_rfl); (with_reducible refine' ⟨_, rfl, ?z587k, ?_⟩); (case z587k => with_reducible exact Kp.typ); (with_reducible refine' Evs.cons ?_ ?z588he); (case z588he => rfl); (with_reducible refine Ev.bin ?_; refine' Ev.loc ?z590h ?_); (case z590h => nest_cls); (with_reducible refine Ev.flt ?_; refine Op2.mulF ?_; refine Evs.nil ?_; refine Ca.intF (by with_reducible assumption) ?_; refine put_3 ?_; refine Ss.cons ?_; refine' S1.asL ?_ ?z600hs); (case z600hs => rfl); (with_reducible refine Ev.bin ?_; refine Ev.bin ?_; refine' Ev.loc ?z603h ?_); (case z603h => nest_cls); (with_reducible refine Ev.flt ?_; refine Op2.mulF ?_; refine' Ev.loc ?z606h ?_); (case z606h => nest_cls); (with_reducible refine Op2.subFI (fit3 (by with_reducible assumption)) ?_; refine put_4 ?_; refine Ss.cons ?_; refine' S1.asL ?_ ?z614hs); (case z614hs => rfl); (with_reducible refine Ev.bin ?_; refine' Ev.loc ?z616h ?_); (case z616h => nest_cls); (with_reducible refine Ev.bin ?_; refine Ev.flt ?_; refine' Ev.loc ?z619h ?_); (case z619h => nest_cls); (with_reducible refine Op2.subF ?_; refine Op2.mulF ?_; refine put_5 ?_; refine Ss.cons ?_; refine' S1.asL ?_ ?z629hs); (case z629hs => rfl); (with_reducible refine Ev.bin ?_; refine' Ev.loc ?z631h ?_); (case z631h => nest_cls); (with_reducible refine Ev.bin ?_; refine Ev.flt ?_; refine Ev.bin ?_; refine' Ev.loc ?z635h ?_); (case z635h => nest_cls); (with_reducible refine' Ev.loc ?z636h ?_); (case z636h => nest_cls); (with_reducible refine Op2.mulF ?_; refine Op2.subF ?_; refine Op2.mulF ?_; refine put_6 ?_; refine Ss.cons ?_; refine' S1.asL ?_ ?z648hs); (case z648hs => rfl); (with_reducible refine Ev.bin ?_; refine' Ev.loc ?z650h ?_); (case z650h => nest_cls); (with_reducible refine Ev.bin ?_; refine Ev.flt ?_; refine Ev.bin ?_; refine' Ev.loc ?z654h ?_); (case z654h => nest_cls); (with_reducible refine Ev.bin ?_; refine Ev.flt ?_; refine' Ev.loc ?z657h ?_); (case z657h => nest_cls); (with_reducible refine Op2.subF ?_; refine Op2.mulF ?_; refine Op2.subF ?_; refine Op2.mulF ?_; refine put_7 ?_; refine Ss.cons ?_; refine' S1.asL ?_ ?z671hs); (case z671hs => rfl); (with_reducible refine Ev.bin ?_; refine' Ev.loc ?z673h ?_); (case z673h => nest_cls); (with_reducible refine Ev.int ?_; refine' Op2.modI ?z675h ?_); (case z675h => decide); (with_reducible refine put_3 ?_; refine Ss.cons ?_; refine S1.ite ?_; refine' Te.cmp ?_ ?z682hm); (case z682hm => rfl); (with_reducible refine' Ev.loc ?z683h ?_); (case z683h => nest_cls); (with_reducible refine Ev.int ?_; refine Op2.eqI ?_; refine Tr.bool ?_; refine ite_f (by with_reducible assumption) ?_; refine Ss.nil ?_; refine Ss.cons ?_; refine S1.ite ?_; refine' Te.cmp ?_ ?z691hm); (case z691hm => rfl); (with_reducible refine' Ev.loc ?z692h ?_); (case z692h => nest_cls); (with_reducible refine Ev.int ?_; refine Op2.eqI ?_; refine Tr.bool ?_; refine ite_f (by with_reducible assumption) ?_; refine Ss.nil ?_; refine Ss.cons ?_; refine S1.ite ?_; refine' Te.cmp ?_ ?z700hm); (case z700hm => rfl); (with_reducible refine' Ev.loc ?z701h ?_); (case z701h => nest_cls); (with_reducible refine Ev.int ?_; refine Op2.eqI ?_; refine Tr.bool ?_; refine ite_f (by with_reducible assumption) ?_; refine Ss.nil ?_; refine Ss.cons ?_; refine S1.ite ?_; refine' Te.cmp ?_ ?z709hm); (case z709hm => rfl); (with_reducible refine' Ev.loc ?z710h ?_); (case z710h => nest_cls); (with_reducible refine Ev.int ?_; refine Op2.eqI ?_; refine Tr.bool ?_; refine ite_f (by with_reducible assumption) ?_; refine Ss.nil ?_; refine Ss.cons ?_; refine S1.ite ?_; refine' Te.cmp ?_ ?z718hm); (case z718hm => rfl); (with_reducible refine' Ev.loc ?z719h ?_); (case z719h => nest_cls); (with_reducible refine Ev.int ?_; refine Op2.eqI ?_; refine Tr.bool ?_; refine ite_t (by with_reducible assumption) ?_; refine Ss.cons ?_; refine S1.ret ?_; refine Ev.tup ?_; refine' Evs.cons ?_ ?z727he); (case z727he => rfl); (with_reducible refine' Ev.loc ?z728h ?_); (case z728h => nest_cls); (with_reducible refine' Evs.cons ?_ ?z729he); (case z729he => rfl); (with_reducible refine' Ev.loc ?z730h ?_); (case z730h => nest_cls); (with_reducible refine' Evs.cons ?_ ?z731he); (case z731he => rfl); (with_reducible refine' Ev.loc ?z732h ?_); (case z732h => nest_cls); (with_reducible refine Evs.nil ?_; refine And.intro (Nat.le_of_ble_eq_true rfl) ?_)
          exact ⟨_, .ret, rfl, rfl⟩
        rw [if_neg j4] at e
        by_cases j5 : (i.fmod 6 == 5) = true
        · rw [if_pos j5] at e; cases e
          (with_reducible refine Ss.cons ?_; refine S1.ite ?_; refine' Te.cmp ?_ ?z737hm); (case z737hm => rfl); (with_reducible refine' Ev.loc ?z738h ?_); (case z738h => nest_cls); (with_reducible refine Ev.flt ?_; refine Op2.eqF ?_; refine Tr.bool ?_; refine ite_f (by with_reducible assumption) ?_; refine Ss.nil ?_; refine Ss.cons ?_; refine' S1.asL ?_ ?z745hs); (case z745hs => rfl); (with_reducible refine' Ev.call ?_ ?z746hp); (case z746hp => intro _; rfl); (with_reducible refine' Ev.bui ?z747h ?_ ?z747hx); (case z747h => with_reducible exact b_int _ _ _ _); (case z747hx => kernel_rfl); (with_reducible refine' ⟨_, rfl, ?z748k, ?_⟩); (case z748k => with_reducible exact Kp.typ); (with_reducible refine' Evs.cons ?_ ?z749he); (case z749he => rfl); (with_reducible refine Ev.bin ?_; refine' Ev.loc ?z751h ?_); (case z751h => nest_cls); (with_reducible refine Ev.flt ?_; refine Op2.mulF ?_; refine Evs.nil ?_; refine Ca.intF (by with_reducible assumption) ?_; refine put_3 ?_; refine Ss.cons ?_; refine' S1.asL ?_ ?z761hs); (case z761hs => rfl); (with_reducible refine Ev.bin ?_; refine Ev.bin ?_; refine' Ev.loc ?z764h ?_); (case z764h => nest_cls); (with_reducible refine Ev.flt ?_; refine Op2.mulF ?_; refine' Ev.loc ?z767h ?_); (case z767h => nest_cls); (with_reducible refine Op2.subFI (fit3 (by with_reducible assumption)) ?_; refine put_4 ?_; refine Ss.cons ?_; refine' S1.asL ?_ ?z775hs); (case z775hs => rfl); (with_reducible refine Ev.bin ?_; refine' Ev.loc ?z777h ?_); (case z777h => nest_cls); (with_reducible refine Ev.bin ?_; refine Ev.flt ?_; refine' Ev.loc ?z780h ?_); (case z780h => nest_cls); (with_reducible refine Op2.subF ?_; refine Op2.mulF ?_; refine put_5 ?_; refine Ss.cons ?_; refine' S1.asL ?_ ?z790hs); (case z790hs => rfl); (with_reducible refine Ev.bin ?_; refine' Ev.loc ?z792h ?_); (case z792h => nest_cls); (with_reducible refine Ev.bin ?_; refine Ev.flt ?_; refine Ev.bin ?_; refine' Ev.loc ?z796h ?_); (case z796h => nest_cls); (with_reducible refine' Ev.loc ?z797h ?_); (case z797h => nest_cls); (with_reducible refine Op2.mulF ?_; refine Op2.subF ?_; refine Op2.mulF ?_; refine put_6 ?_; refine Ss.cons ?_; refine' S1.asL ?_ ?z809hs); (case z809hs => rfl); (with_reducible refine Ev.bin ?_; refine' Ev.loc ?z811h ?_); (case z811h => nest_cls); (with_reducible refine Ev.bin ?_; refine Ev.flt ?_; refine Ev.bin ?_; refine' Ev.loc ?z815h ?_); (case z815h => nest_cls); (with_reducible refine Ev.bin ?_; refine Ev.flt ?_; refine' Ev.loc ?z818h ?_); (case z818h => nest_cls); (with_reducible refine Op2.subF ?_; refine Op2.mulF ?_; refine Op2.subF ?_; refine Op2.mulF ?_; refine put_7 ?_; refine Ss.cons ?_; refine' S1.asL ?_ ?z832hs); (case z832hs => rfl); (with_reducible refine Ev.bin ?_; refine' Ev.loc ?z834h ?_); (case z834h => nest_cls); (with_reducible refine Ev.int ?_; refine' Op2.modI ?z836h ?_); (case z836h => decide); (with_reducible refine put_3 ?_; refine Ss.cons ?_; refine S1.ite ?_; refine' Te.cmp ?_ ?z843hm); (case z843hm => rfl); (with_reducible refine' Ev.loc ?z844h ?_); (case z844h => nest_cls); (with_reducible refine Ev.int ?_; refine Op2.eqI ?_; refine Tr.bool ?_; refine ite_f (by with_reducible assumption) ?_; refine Ss.nil ?_; refine Ss.cons ?_; refine S1.ite ?_; refine' Te.cmp ?_ ?z852hm); (case z852hm => rfl); (with_reducible refine' Ev.loc ?z853h ?_); (case z853h => nest_cls); (with_reducible refine Ev.int ?_; refine Op2.eqI ?_; refine Tr.bool ?_; refine ite_f (by with_reducible assumption) ?_; refine Ss.nil ?_; refine Ss.cons ?_; refine S1.ite ?_; refine' Te.cmp ?_ ?z861hm); (case z861hm => rfl); (with_reducible refine' Ev.loc ?z862h ?_); (case z862h => nest_cls); (with_reducible refine Ev.int ?_; refine Op2.eqI ?_; refine Tr.bool ?_; refine ite_f (by with_reducible assumption) ?_; refine Ss.nil ?_; refine Ss.cons ?_; refine S1.ite ?_; refine' Te.cmp ?_ ?z870hm); (case z870hm => rfl); (with_reducible refine' Ev.loc ?z871h ?_); (case z871h => nest_cls); (with_reducible refine Ev.int ?_; refine Op2.eqI ?_; refine Tr.bool ?_; refine ite_f (by with_reducible assumption) ?_; refine Ss.nil ?_; refine Ss.cons ?_; refine S1.ite ?_; refine' Te.cmp ?_ ?z879hm); (case z879hm => rfl); (with_reducible refine' Ev.loc ?z880h ?_); (case z880h => nest_cls); (with_reducible refine Ev.int ?_; refine Op2.eqI ?_; refine Tr.bool ?_; refine ite_f (by with_reducible assumption) ?_; refine Ss.nil ?_; refine Ss.cons ?_; refine S1.ite ?_; refine' Te.cmp ?_ ?z888hm); (case z888hm => rfl); (with_reducible refine' Ev.loc ?z889h ?_); (case z889h => nest_cls); (with_reducible refine Ev.int ?_; refine Op2.eqI ?_; refine Tr.bool ?_; refine ite_t (by with_reducible assumption) ?_; refine Ss.cons ?_; refine S1.ret ?_; refine Ev.tup ?_; refine' Evs.cons ?_ ?z897he); (case z897he => rfl); (with_reducible refine' Ev.loc ?z898h ?_); (case z898h => nest_cls); (with_reducible refine' Evs.cons ?_ ?z899he); (case z899he => rfl); (with_reducible refine' Ev.loc ?z900h ?_); (case z900h => nest_cls); (with_reducible refine' Evs.cons ?_ ?z901he); (case z901he => rfl); (with_reducible refine' Ev.loc ?z902h ?_); (case z902h => nest_cls); (with_reducible refine Evs.nil ?_; refine And.intro (Nat.le_of_ble_eq_true rfl) ?_)
          exact ⟨_, .ret, rfl, rfl⟩
        rw [if_neg j5] at e; cases e
      · rw [if_neg hz] at e; cases e
end
section
variable (w : World) (mg mb : Str → Option Value) (os : OsState)
noncomputable def rgbHue (r g b mx mn : UInt64) : UInt64 :=
  if (Float64.cmp r mx == some .eq) = true then Float64.sub (Float64.div (Float64.sub mx b) (Float64.sub mx mn)) (Float64.div (Float64.sub mx g) (Float64.sub mx mn))
  else if (Float64.cmp g mx == some .eq) = true then Float64.sub (Float64.add fTwo (Float64.div (Float64.sub mx r) (Float64.sub mx mn))) (Float64.div (Float64.sub mx b) (Float64.sub mx mn))
  else Float64.sub (Float64.add fFour (Float64.div (Float64.sub mx g) (Float64.sub mx mn))) (Float64.div (Float64.sub mx r) (Float64.sub mx mn))
noncomputable def rgbSpec (r g b : UInt64) : Option (UInt64 × UInt64 × UInt64) :=
  if (Float64.cmp (fMin r g b) (fMax r g b) == some .eq) = true then some (0, 0, fMax r g b) else
  if Float64.isZero (fMax r g b) = false ∧ Float64.isZero (Float64.sub (fMax r g b) (fMin r g b)) = false then
    some ((Float64.divmod (Float64.div (rgbHue r g b (fMax r g b) (fMin r g b)) fSix) fOne).2, Float64.div (Float64.sub (fMax r g b) (fMin r g b)) (fMax r g b), fMax r g b)
  else none
theorem c_rgb (r g b x y z : UInt64) (e : rgbSpec r g b = some (x, y, z)) : Cal (Γ1 w mg mb os) 1 (.ref 195) [.flt r, .flt g, .flt b] [] [] fun d O' => O' = [] ∧ d = .tup [.flt x, .flt y, .flt z] := by
  refine Cal.intro (params := ["r", "g", "b"]) (bds := [.flt r, .flt g, .flt b]) [("r", some (.flt r)), ("g", some (.flt g)), ("b", some (.flt b)), ("maxc", none), ("minc", none), ("rangec", none), ("v", none), ("s", none), ("rc", none), ("gc", none), ("bc", none), ("h", none)] [] rfl (by kernel_rfl) rfl ⟨rfl, rfl, rfl, rfl, rfl, rfl⟩
    (fun g s vs ks ok iv ik => ?_) (by decide +kernel) (by decide +kernel) (by decide +kernel) (by decide +kernel) (by kernel_rfl) (by kernel_rfl) fun A L room => ?_
  · obtain ⟨x, y, z, rfl, i, j, k⟩ := iv.three
    exact ⟨[x, y, z], .of_eq (by kernel_rfl), iv⟩
  · have hh := room.h
    have z6 : Float64.isZero fSix = false := by decide +kernel
    have z1 : Float64.isZero fOne = false := by decide +kernel
    unfold rgbSpec at e
    by_cases h0 : (Float64.cmp (fMin r g b) (fMax r g b) == some .eq) = true
    · rw [if_pos h0] at e
      cases e
      (with_reducible refine Ss.cons ?_; refine' S1.asL ?_ ?z906hs); (case z906hs => rfl); (with_reducible refine' Ev.call ?_ ?z907hp); (case z907hp => intro _; rfl); (with_reducible refine' Ev.bui ?z908h ?_ ?z908hx); (case z908h => with_reducible exact b_max _ _ _ _); (case z908hx => kernel_rfl); (with_reducible refine' ⟨_, rfl, ?z909k, ?_⟩); (case z909k => with_reducible exact Kp.bui); (with_reducible refine' Evs.cons ?_ ?z910he); (case z910he => rfl); (with_reducible refine' Ev.loc ?z911h ?_); (case z911h => nest_cls); (with_reducible refine' Evs.cons ?_ ?z912he); (case z912he => rfl); (with_reducible refine' Ev.loc ?z913h ?_); (case z913h => nest_cls); (with_reducible refine' Evs.cons ?_ ?z914he); (case z914he => rfl); (with_reducible refine' Ev.loc ?z915h ?_); (case z915h => nest_cls); (with_reducible refine Evs.nil ?_; refine Ca.max3 (by with_reducible assumption) ?_; refine put_3 ?_; refine Ss.cons ?_; refine' S1.asL ?_ ?z923hs); (case z923hs => rfl); (with_reducible refine' Ev.call ?_ ?z924hp); (case z924hp => intro _; rfl); (with_reducible refine' Ev.bui ?z925h ?_ ?z925hx); (case z925h => with_reducible exact b_min _ _ _ _); (case z925hx => kernel_rfl); (with_reducible refine' ⟨_, rfl, ?z926k, ?_⟩); (case z926k => with_reducible exact Kp.bui); (with_reducible refine' Evs.cons ?_ ?z927he); (case z927he => rfl); (with_reducible refine' Ev.loc ?z928h ?_); (case z928h => nest_cls); (with_reducible refine' Evs.cons ?_ ?z929he); (case z929he => rfl); (with_reducible refine' Ev.loc ?z930h ?_); (case z930h => nest_cls); (with_reducible refine' Evs.cons ?_ ?z931he); (case z931he => rfl); (with_reducible refine' Ev.loc ?z932h ?_); (case z932h => nest_cls); (with_reducible refine Evs.nil ?_; refine Ca.min3 (by with_reducible assumption) ?_; refine put_4 ?_; refine Ss.cons ?_; refine' S1.asL ?_ ?z941hs); (case z941hs => rfl); (with_reducible refine Ev.bin ?_; refine' Ev.loc ?z943h ?_); (case z943h => nest_cls); (with_reducible refine' Ev.loc ?z944h ?_); (case z944h => nest_cls); (with_reducible refine Op2.subF ?_; refine put_5 ?_; refine Ss.cons ?_; refine' S1.asL ?_ ?z953hs); (case z953hs => rfl); (with_reducible refine' Ev.loc ?z954h ?_); (case z954h => nest_cls); (with_reducible refine put_6 ?_; refine Ss.cons ?_; refine S1.ite ?_; refine' Te.cmp ?_ ?z964hm); (case z964hm => rfl); (with_reducible refine' Ev.loc ?z965h ?_); (case z965h => nest_cls); (with_reducible refine' Ev.loc ?z966h ?_); (case z966h => nest_cls); (with_reducible refine Op2.eqF ?_; refine Tr.bool ?_; refine ite_t (by with_reducible assumption) ?_; refine Ss.cons ?_; refine S1.ret ?_; refine Ev.tup ?_; refine' Evs.cons ?_ ?z973he); (case z973he => rfl); (with_reducible refine Ev.flt ?_; refine' Evs.cons ?_ ?z975he); (case z975he => rfl); (with_reducible refine Ev.flt ?_; refine' Evs.cons ?_ ?z977he); (case z977he => rfl); (with_reducible refine' Ev.loc ?z978h ?_); (case z978h => nest_cls); (with_reducible refine Evs.nil ?_; refine And.intro (Nat.le_of_ble_eq_true rfl) ?_)
      exact ⟨_, .ret, rfl, rfl⟩
    · rw [if_neg h0] at e
      by_cases hz : Float64.isZero (fMax r g b) = false ∧ Float64.isZero (Float64.sub (fMax r g b) (fMin r g b)) = false
      · rw [if_pos hz] at e
        obtain ⟨hz1, hz2⟩ := hz
        unfold rgbHue at e
        by_cases j0 : (Float64.cmp r (fMax r g b) == some .eq) = true
        · rw [if_pos j0] at e; cases e
          (with_reducible refine Ss.cons ?_; refine' S1.asL ?_ ?z982hs); (case z982hs => rfl); (with_reducible refine' Ev.call ?_ ?z983hp); (case z983hp => intro _; rfl); (with_reducible refine' Ev.bui ?z984h ?_ ?z984hx); (case z984h => with_reducible exact b_max _ _ _ _); (case z984hx => kernel_rfl); (with_reducible refine' ⟨_, rfl, ?z985k, ?_⟩); (case z985k => with_reducible exact Kp.bui); (with_reducible refine' Evs.cons ?_ ?z986he); (case z986he => rfl); (with_reducible refine' Ev.loc ?z987h ?_); (case z987h => nest_cls); (with_reducible refine' Evs.cons ?_ ?z988he); (case z988he => rfl); (with_reducible refine' Ev.loc ?z989h ?_); (case z989h => nest_cls); (with_reducible refine' Evs.cons ?_ ?z990he); (case z990he => rfl); (with_reducible refine' Ev.loc ?z991h ?_); (case z991h => nest_cls); (with_reducible refine Evs.nil ?_; refine Ca.max3 (by with_reducible assumption) ?_; refine put_3 ?_; refine Ss.cons ?_; refine' S1.asL ?_ ?z999hs); (case z999hs => rfl); (with_reducible refine' Ev.call ?_ ?z1000hp); (case z1000hp => intro _; rfl); (with_reducible refine' Ev.bui ?z1001h ?_ ?z1001hx); (case z1001h => with_reducible exact b_min _ _ _ _); (case z1001hx => kernel_rfl); (with_reducible refine' ⟨_, rfl, ?z1002k, ?_⟩); (case z1002k => with_reducible exact Kp.bui); (with_reducible refine' Evs.cons ?_ ?z1003he); (case z1003he => rfl); (with_reducible refine' Ev.loc ?z1004h ?_); (case z1004h => nest_cls); (with_reducible refine' Evs.cons ?_ ?z1005he); (case z1005he => rfl); (with_reducible refine' Ev.loc ?z1006h ?_); (case z1006h => nest_cls); (with_reducible refine' Evs.cons ?_ ?z1007he); (case z1007he => rfl); (with_reducible refine' Ev.loc ?z1008h ?_); (case z1008h => nest_cls); (with_reducible refine Evs.nil ?_; refine Ca.min3 (by with_reducible assumption) ?_; refine put_4 ?_; refine Ss.cons ?_; refine' S1.asL ?_ ?z1017hs); (case z1017hs => rfl); (with_reducible refine Ev.bin ?_; refine' Ev.loc ?z1019h ?_); (case z1019h => nest_cls); (with_reducible refine' Ev.loc ?z1020h ?_); (case z1020h => nest_cls); (with_reducible refine Op2.subF ?_; refine put_5 ?_; refine Ss.cons ?_; refine' S1.asL ?_ ?z1029hs); (case z1029hs => rfl); (with_reducible refine' Ev.loc ?z1030h ?_); (case z1030h => nest_cls); (with_reducible refine put_6 ?_; refine Ss.cons ?_; refine S1.ite ?_; refine' Te.cmp ?_ ?z1040hm); (case z1040hm => rfl); (with_reducible refine' Ev.loc ?z1041h ?_); (case z1041h => nest_cls); (with_reducible refine' Ev.loc ?z1042h ?_); (case z1042h => nest_cls); (with_reducible refine Op2.eqF ?_; refine Tr.bool ?_; refine ite_f (by with_reducible assumption) ?_; refine Ss.nil ?_; refine Ss.cons ?_; refine' S1.asL ?_ ?z1048hs); (case z1048hs => rfl); (with_reducible refine Ev.bin ?_; refine' Ev.loc ?z1050h ?_); (case z1050h => nest_cls); (with_reducible refine' Ev.loc ?z1051h ?_); (case z1051h => nest_cls); (with_reducible refine' Op2.divF ?z1052h ?_); (case z1052h => with_reducible assumption); (with_reducible refine put_7 ?_; refine Ss.cons ?_; refine' S1.asL ?_ ?z1062hs); (case z1062hs => rfl); (with_reducible refine Ev.bin ?_; refine Ev.bin ?_; refine' Ev.loc ?z1065h ?_); (case z1065h => nest_cls); (with_reducible refine' Ev.loc ?z1066h ?_); (case z1066h => nest_cls); (with_reducible refine Op2.subF ?_; refine' Ev.loc ?z1068h ?_); (case z1068h => nest_cls); (with_reducible refine' Op2.divF ?z1069h ?_); (case z1069h => with_reducible assumption); (with_reducible refine put_8 ?_; refine Ss.cons ?_; refine' S1.asL ?_ ?z1080hs); (case z1080hs => rfl); (with_reducible refine Ev.bin ?_; refine Ev.bin ?_; refine' Ev.loc ?z1083h ?_); (case z1083h => nest_cls); (with_reducible refine' Ev.loc ?z1084h ?_); (case z1084h => nest_cls); (with_reducible refine Op2.subF ?_; refine' Ev.loc ?z1086h ?_); (case z1086h => nest_cls); (with_reducible refine' Op2.divF ?z1087h ?_); (case z1087h => with_reducible assumption); (with_reducible refine put_9 ?_; refine Ss.cons ?_; refine' S1.asL ?_ ?z1099hs); (case z1099hs => rfl); (with_reducible refine Ev.bin ?_; refine Ev.bin ?_; refine' Ev.loc ?z1102h ?_); (case z1102h => nest_cls); (with_reducible refine' Ev.loc ?z1103h ?_); (case z1103h => nest_cls); (with_reducible refine Op2.subF ?_; refine' Ev.loc ?z1105h ?_); (case z1105h => nest_cls); (with_reducible refine' Op2.divF ?z1106h ?_); (case z1106h => with_reducible assumption); (with_reducible refine put_10 ?_; refine Ss.cons ?_; refine S1.ite ?_; refine' Te.cmp ?_ ?z1120hm); (case z1120hm => rfl); (with_reducible refine' Ev.loc ?z1121h ?_); (case z1121h => nest_cls); (with_reducible refine' Ev.loc ?z1122h ?_); (case z1122h => nest_cls); (with_reducible refine Op2.eqF ?_; refine Tr.bool ?_; refine ite_t (by with_reducible assumption) ?_; refine Ss.cons ?_; refine' S1.asL ?_ ?z1127hs); (case z1127hs => rfl); (with_reducible refine Ev.bin ?_; refine' Ev.loc ?z1129h ?_); (case z1129h => nest_cls); (with_reducible refine' Ev.loc ?z1130h ?_); (case z1130h => nest_cls); (with_reducible refine Op2.subF ?_; refine put_11 ?_; refine Ss.nil ?_; refine Ss.cons ?_; refine' S1.asL ?_ ?z1146hs); (case z1146hs => rfl); (with_reducible refine Ev.bin ?_; refine Ev.bin ?_; refine' Ev.loc ?z1149h ?_); (case z1149h => nest_cls); (with_reducible refine Ev.flt ?_; refine' Op2.divF ?z1151h ?_); (case z1151h => with_reducible assumption); (with_reducible refine Ev.flt ?_; refine' Op2.modF ?z1153h ?_); (case z1153h => with_reducible assumption); (with_reducible refine put_11 ?_; refine Ss.cons ?_; refine S1.ret ?_; refine Ev.tup ?_; refine' Evs.cons ?_ ?z1169he); (case z1169he => rfl); (with_reducible refine' Ev.loc ?z1170h ?_); (case z1170h => nest_cls); (with_reducible refine' Evs.cons ?_ ?z1171he); (case z1171he => rfl); (with_reducible refine' Ev.loc ?z1172h ?_); (case z1172h => nest_cls); (with_reducible refine' Evs.cons ?_ ?z1173he); (case z1173he => rfl); (with_reducible refine' Ev.loc ?z1174h ?_); (case z1174h => nest_cls); (with_reducible refine Evs.nil ?_; refine And.intro (Nat.le_of_ble_eq_true rfl) ?_)
          exact ⟨_, .ret, rfl, rfl⟩
        rw [if_neg j0] at e
        by_cases j1 : (Float64.cmp g (fMax r g b) == some .eq) = true
        · rw [if_pos j1] at e; cases e
          (with_reducible refine Ss.cons ?_; refine' S1.asL ?_ ?z1178hs); (case z1178hs => rfl); (with_reducible refine' Ev.call ?_ ?z1179hp); (case z1179hp => intro _; rfl); (with_reducible refine' Ev.bui ?z1180h ?_ ?z1180hx); (case z1180h => with_reducible exact b_max _ _ _ _); (case z1180hx => kernel_rfl); (with_reducible refine' ⟨_, rfl, ?z1181k, ?_⟩); (case z1181k => with_reducible exact Kp.bui); (with_reducible refine' Evs.cons ?_ ?z1182he); (case z1182he => rfl); (with_reducible refine' Ev.loc ?z1183h ?_); (case z1183h => nest_cls); (with_reducible refine' Evs.cons ?_ ?z1184he); (case z1184he => rfl); (with_reducible refine' Ev.loc ?z1185h ?_); (case z1185h => nest_cls); (with_reducible refine' Evs.cons ?_ ?z1186he); (case z1186he => rfl); (with_reducible refine' Ev.loc ?z1187h ?_); (case z1187h => nest_cls); (with_reducible refine Evs.nil ?_; refine Ca.max3 (by with_reducible assumption) ?_; refine put_3 ?_; refine Ss.cons ?_; refine' S1.asL ?_ ?z1195hs); (case z1195hs => rfl); (with_reducible refine' Ev.call ?_ ?z1196hp); (case z1196hp => intro _; rfl); (with_reducible refine' Ev.bui ?z1197h ?_ ?z1197hx); (case z1197h => with_reducible exact b_min _ _ _ _); (case z1197hx => kernel_rfl); (with_reducible refine' ⟨_, rfl, ?z1198k, ?_⟩); (case z1198k => with_reducible exact Kp.bui); (with_reducible refine' Evs.cons ?_ ?z1199he); (case z1199he => rfl); (with_reducible refine' Ev.loc ?z1200h ?_); (case z1200h => nest_cls); (with_reducible refine' Evs.cons ?_ ?z1201he); (case z1201he => rfl); (with_reducible refine' Ev.loc ?z1202h ?_); (case z1202h => nest_cls); (with_reducible refine' Evs.cons ?_ ?z1203he); (case z1203he => rfl); (with_reducible refine' Ev.loc ?z1204h ?_); (case z1204h => nest_cls); (with_reducible refine Evs.nil ?_; refine Ca.min3 (by with_reducible assumption) ?_; refine put_4 ?_; refine Ss.cons ?_; refine' S1.asL ?_ ?z1213hs); (case z1213hs => rfl); (with_reducible refine Ev.bin ?_; refine' Ev.loc ?z1215h ?_); (case z1215h => nest_cls); (with_reducible refine' Ev.loc ?z1216h ?_); (case z1216h => nest_cls); (with_reducible refine Op2.subF ?_; refine put_5 ?_; refine Ss.cons ?_; refine' S1.asL ?_ ?z1225hs); (case z1225hs => rfl); (with_reducible refine' Ev.loc ?z1226h ?_); (case z1226h => nest_cls); (with_reducible refine put_6 ?_; refine Ss.cons ?_; refine S1.ite ?_; refine' Te.cmp ?_ ?z1236hm); (case z1236hm => rfl); (with_reducible refine' Ev.loc ?z1237h ?_); (case z1237h => nest_cls); (with_reducible refine' Ev.loc ?z1238h ?_); (case z1238h => nest_cls); (with_reducible refine Op2.eqF ?_; refine Tr.bool ?_; refine ite_f (by with_reducible assumption) ?_; refine Ss.nil ?_; refine Ss.cons ?_; refine' S1.asL ?_ ?z1244hs); (case z1244hs => rfl); (with_reducible refine Ev.bin ?_; refine' Ev.loc ?z1246h ?_); (case z1246h => nest_cls); (with_reducible refine' Ev.loc ?z1247h ?_); (case z1247h => nest_cls); (with_reducible refine' Op2.divF ?z1248h ?_); (case z1248h => with_reducible assumption); (with_reducible refine put_7 ?_; refine Ss.cons ?_; refine' S1.asL ?_ ?z1258hs); (case z1258hs => rfl); (with_reducible refine Ev.bin ?_; refine Ev.bin ?_; refine' Ev.loc ?z1261h ?_); (case z1261h => nest_cls); (with_reducible refine' Ev.loc ?z1262h ?_); (case z1262h => nest_cls); (with_reducible refine Op2.subF ?_; refine' Ev.loc ?z1264h ?_); (case z1264h => nest_cls); (with_reducible refine' Op2.divF ?z1265h ?_); (case z1265h => with_reducible assumption); (with_reducible refine put_8 ?_; refine Ss.cons ?_; refine' S1.asL ?_ ?z1276hs); (case z1276hs => rfl); (with_reducible refine Ev.bin ?_; refine Ev.bin ?_; refine' Ev.loc ?z1279h ?_); (case z1279h => nest_cls); (with_reducible refine' Ev.loc ?z1280h ?_); (case z1280h => nest_cls); (with_reducible refine Op2.subF ?_; refine' Ev.loc ?z1282h ?_); (case z1282h => nest_cls); (with_reducible refine' Op2.divF ?z1283h ?_); (case z1283h => with_reducible assumption); (with_reducible refine put_9 ?_; refine Ss.cons ?_; refine' S1.asL ?_ ?z1295hs); (case z1295hs => rfl); (with_reducible refine Ev.bin ?_; refine Ev.bin ?_; refine' Ev.loc ?z1298h ?_); (case z1298h => nest_cls); (with_reducible refine' Ev.loc ?z1299h ?_); (case z1299h => nest_cls); (with_reducible refine Op2.subF ?_; refine' Ev.loc ?z1301h ?_); (case z1301h => nest_cls); (with_reducible refine' Op2.divF ?z1302h ?_); (case z1302h => with_reducible assumption); (with_reducible refine put_10 ?_; refine Ss.cons ?_; refine S1.ite ?_; refine' Te.cmp ?_ ?z1316hm); (case z1316hm => rfl); (with_reducible refine' Ev.loc ?z1317h ?_); (case z1317h => nest_cls); (with_reducible refine' Ev.loc ?z1318h ?_); (case z1318h => nest_cls); (with_reducible refine Op2.eqF ?_; refine Tr.bool ?_; refine ite_f (by with_reducible assumption) ?_; refine Ss.cons ?_; refine S1.ite ?_; refine' Te.cmp ?_ ?z1324hm); (case z1324hm => rfl); (with_reducible refine' Ev.loc ?z1325h ?_); (case z1325h => nest_cls); (with_reducible refine' Ev.loc ?z1326h ?_); (case z1326h => nest_cls); (with_reducible refine Op2.eqF ?_; refine Tr.bool ?_; refine ite_t (by with_reducible assumption) ?_; refine Ss.cons ?_; refine' S1.asL ?_ ?z1331hs); (case z1331hs => rfl); (with_reducible refine Ev.bin ?_; refine Ev.bin ?_; refine Ev.flt ?_; refine' Ev.loc ?z1335h ?_); (case z1335h => nest_cls); (with_reducible refine Op2.addF ?_; refine' Ev.loc ?z1337h ?_); (case z1337h => nest_cls); (with_reducible refine Op2.subF ?_; refine put_11 ?_; refine Ss.nil ?_; refine Ss.nil ?_; refine Ss.cons ?_; refine' S1.asL ?_ ?z1354hs); (case z1354hs => rfl); (with_reducible refine Ev.bin ?_; refine Ev.bin ?_; refine' Ev.loc ?z1357h ?_); (case z1357h => nest_cls); (with_reducible refine Ev.flt ?_; refine' Op2.divF ?z1359h ?_); (case z1359h => with_reducible assumption); (with_reducible refine Ev.flt ?_; refine' Op2.modF ?z1361h ?_); (case z1361h => with_reducible assumption); (with_reducible refine put_11 ?_; refine Ss.cons ?_; refine S1.ret ?_; refine Ev.tup ?_; refine' Evs.cons ?_ ?z1377he); (case z1377he => rfl); (with_reducible refine' Ev.loc ?z1378h ?_); (case z1378h => nest_cls); (with_reducible refine' Evs.cons ?_ ?z1379he); (case z1379he => rfl); (with_reducible refine' Ev.loc ?z1380h ?_); (case z1380h => nest_cls); (with_reducible refine' Evs.cons ?_ ?z1381he); (case z1381he => rfl); (with_reducible refine' Ev.loc ?z1382h ?_); (case z1382h => nest_cls); (with_reducible refine Evs.nil ?_; refine And.intro (Nat.le_of_ble_eq_true rfl) ?_)
          exact ⟨_, .ret, rfl, rfl⟩
        rw [if_neg j1] at e
        cases e
        (with_reducible refine Ss.cons ?_; refine' S1.asL ?_ ?z1386hs); (case z1386hs => rfl); (with_reducible refine' Ev.call ?_ ?z1387hp); (case z1387hp => intro _; rfl); (with_reducible refine' Ev.bui ?z1388h ?_ ?z1388hx); (case z1388h => with_reducible exact b_max _ _ _ _); (case z1388hx => kernel_rfl); (with_reducible refine' ⟨_, rfl, ?z1389k, ?_⟩); (case z1389k => with_reducible exact Kp.bui); (with_reducible refine' Evs.cons ?_ ?z1390he); (case z1390he => rfl); (with_reducible refine' Ev.loc ?z1391h ?_); (case z1391h => nest_cls); (with_reducible refine' Evs.cons ?_ ?z1392he); (case z1392he => rfl); (with_reducible refine' Ev.loc ?z1393h ?_); (case z1393h => nest_cls); (with_reducible refine' Evs.cons ?_ ?z1394he); (case z1394he => rfl); (with_reducible refine' Ev.loc ?z1395h ?_); (case z1395h => nest_cls); (with_reducible refine Evs.nil ?_; refine Ca.max3 (by with_reducible assumption) ?_; refine put_3 ?_; refine Ss.cons ?_; refine' S1.asL ?_ ?z1403hs); (case z1403hs => rfl); (with_reducible refine' Ev.call ?_ ?z1404hp); (case z1404hp => intro _; rfl); (with_reducible refine' Ev.bui ?z1405h ?_ ?z1405hx); (case z1405h => with_reducible exact b_min _ _ _ _); (case z1405hx => kernel_rfl); (with_reducible refine' ⟨_, rfl, ?z1406k, ?_⟩); (case z1406k => with_reducible exact Kp.bui); (with_reducible refine' Evs.cons ?_ ?z1407he); (case z1407he => rfl); (with_reducible refine' Ev.loc ?z1408h ?_); (case z1408h => nest_cls); (with_reducible refine' Evs.cons ?_ ?z1409he); (case z1409he => rfl); (with_reducible refine' Ev.loc ?z1410h ?_); (case z1410h => nest_cls); (with_reducible refine' Evs.cons ?_ ?z1411he); (case z1411he => rfl); (with_reducible refine' Ev.loc ?z1412h ?_); (case z1412h => nest_cls); (with_reducible refine Evs.nil ?_; refine Ca.min3 (by with_reducible assumption) ?_; refine put_4 ?_; refine Ss.cons ?_; refine' S1.asL ?_ ?z1421hs); (case z1421hs => rfl); (with_reducible refine Ev.bin ?_; refine' Ev.loc ?z1423h ?_); (case z1423h => nest_cls); (with_reducible refine' Ev.loc ?z1424h ?_); (case z1424h => nest_cls); (with_reducible refine Op2.subF ?_; refine put_5 ?_; refine Ss.cons ?_; refine' S1.asL ?_ ?z1433hs); (case z1433hs => rfl); (with_reducible refine' Ev.loc ?z1434h ?_); (case z1434h => nest_cls); (with_reducible refine put_6 ?_; refine Ss.cons ?_; refine S1.ite ?_; refine' Te.cmp ?_ ?z1444hm); (case z1444hm => rfl); (with_reducible refine' Ev.loc ?z1445h ?_); (case z1445h => nest_cls); (with_reducible refine' Ev.loc ?z1446h ?_); (case z1446h => nest_cls); (with_reducible refine Op2.eqF ?_; refine Tr.bool ?_; refine ite_f (by with_reducible assumption) ?_; refine Ss.nil ?_; refine Ss.cons ?_; refine' S1.asL ?_ ?z1452hs); (case z1452hs => rfl); (with_reducible refine Ev.bin ?_; refine' Ev.loc ?z1454h ?_); (case z1454h => nest_cls); (with_reducible refine' Ev.loc ?z1455h ?_); (case z1455h => nest_cls); (with_reducible refine' Op2.divF ?z1456h ?_); (case z1456h => with_reducible assumption); (with_reducible refine put_7 ?_; refine Ss.cons ?_; refine' S1.asL ?_ ?z1466hs); (case z1466hs => rfl); (with_reducible refine Ev.bin ?_; refine Ev.bin ?_; refine' Ev.loc ?z1469h ?_); (case z1469h => nest_cls); (with_reducible refine' Ev.loc ?z1470h ?_); (case z1470h => nest_cls); (with_reducible refine Op2.subF ?_; refine' Ev.loc ?z1472h ?_); (case z1472h => nest_cls); (with_reducible refine' Op2.divF ?z1473h ?_); (case z1473h => with_reducible assumption); (with_reducible refine put_8 ?_; refine Ss.cons ?_; refine' S1.asL ?_ ?z1484hs); (case z1484hs => rfl); (with_reducible refine Ev.bin ?_; refine Ev.bin ?_; refine' Ev.loc ?z1487h ?_); (case z1487h => nest_cls); (with_reducible refine' Ev.loc ?z1488h ?_); (case z1488h => nest_cls); (with_reducible refine Op2.subF ?_; refine' Ev.loc ?z1490h ?_); (case z1490h => nest_cls); (with_reducible refine' Op2.divF ?z1491h ?_); (case z1491h => with_reducible assumption); (with_reducible refine put_9 ?_; refine Ss.cons ?_; refine' S1.asL ?_ ?z1503hs); (case z1503hs => rfl); (with_reducible refine Ev.bin ?_; refine Ev.bin ?_; refine' Ev.loc ?z1506h ?_); (case z1506h => nest_cls); (with_reducible refine' Ev.loc ?z1507h ?_); (case z1507h => nest_cls); (with_reducible refine Op2.subF ?_; refine' Ev.loc ?z1509h ?_); (case z1509h => nest_cls); (with_reducible refine' Op2.divF ?z1510h ?_); (case z1510h => with_reducible assumption); (with_reducible refine put_10 ?_; refine Ss.cons ?_; refine S1.ite ?_; refine' Te.cmp ?_ ?z1524hm); (case z1524hm => rfl); (with_reducible refine' Ev.loc ?z1525h ?_); (case z1525h => nest_cls); (with_reducible refine' Ev.loc ?z1526h ?_); (case z1526h => nest_cls); (with_reducible refine Op2.eqF ?_; refine Tr.bool ?_; refine ite_f (by with_reducible assumption) ?_; refine Ss.cons ?_; refine S1.ite ?_; refine' Te.cmp ?_ ?z1532hm); (case z1532hm => rfl); (with_reducible refine' Ev.loc ?z1533h ?_); (case z1533h => nest_cls); (with_reducible refine' Ev.loc ?z1534h ?_); (case z1534h => nest_cls); (with_reducible refine Op2.eqF ?_; refine Tr.bool ?_; refine ite_f (by with_reducible assumption) ?_; refine Ss.cons ?_; refine' S1.asL ?_ ?z1539hs); (case z1539hs => rfl); (with_reducible refine Ev.bin ?_; refine Ev.bin ?_; refine Ev.flt ?_; refine' Ev.loc ?z1543h ?_); (case z1543h => nest_cls); (with_reducible refine Op2.addF ?_; refine' Ev.loc ?z1545h ?_); (case z1545h => nest_cls); (with_reducible refine Op2.subF ?_; refine put_11 ?_; refine Ss.nil ?_; refine Ss.nil ?_; refine Ss.cons ?_; refine' S1.asL ?_ ?z1562hs); (case z1562hs => rfl); (with_reducible refine Ev.bin ?_; refine Ev.bin ?_; refine' Ev.loc ?z1565h ?_); (case z1565h => nest_cls); (with_reducible refine Ev.flt ?_; refine' Op2.divF ?z1567h ?_); (case z1567h => with_reducible assumption); (with_reducible refine Ev.flt ?_; refine' Op2.modF ?z1569h ?_); (case z1569h => with_reducible assumption); (with_reducible refine put_11 ?_; refine Ss.cons ?_; refine S1.ret ?_; refine Ev.tup ?_; refine' Evs.cons ?_ ?z1585he); (case z1585he => rfl); (with_reducible refine' Ev.loc ?z1586h ?_); (case z1586h => nest_cls); (with_reducible refine' Evs.cons ?_ ?z1587he); (case z1587he => rfl); (with_reducible refine' Ev.loc ?z1588h ?_); (case z1588h => nest_cls); (with_reducible refine' Evs.cons ?_ ?z1589he); (case z1589he => rfl); (with_reducible refine' Ev.loc ?z1590h ?_); (case z1590h => nest_cls); (with_reducible refine Evs.nil ?_; refine And.intro (Nat.le_of_ble_eq_true rfl) ?_)
        exact ⟨_, .ret, rfl, rfl⟩
      · rw [if_neg hz] at e; cases e
end
section
variable (w : World) (mg mb : Str → Option Value) (os : OsState)
noncomputable abbrev fs1 (raw : Str) : List (Str × D) := [] ++ [(("raw" : Str), D.str raw)]
noncomputable abbrev wsFs (raw : Str) (n nt : Int) (cs : List Int) (b : Int) (sm : Bool) : List (Str × D) := [("raw", .str raw), ("n", .int n), ("nt", .int nt), ("norm", .tup [.tup (cs.map .int), .int b]), ("is_simple", .bool sm)]
noncomputable def bump (b : Nat) (cnt : List Int) : List Int := cnt.set b (cnt.getD b 0 + 1)
noncomputable def grown (b : Int) (cnt : List Int) : List Int := if (cnt.length : Int) ≤ b then cnt ++ List.replicate (b - cnt.length + 1).toNat 0 else cnt
noncomputable def wsGo : List Nat → Int → Int → Int → List Int → Int × Int × Int × List Int
  | [], n, nt, b, cnt => (n, nt, b, cnt)
  | c :: r, n, nt, b, cnt => if (c == 32) = true then wsGo r (n + 1) nt (b + 1) cnt else if (c == 9) = true then wsGo r (n + 1) (nt + 1) 0 (bump b.toNat (grown b cnt)) else (n, nt, b, cnt)
theorem bump_map (b : Nat) (cnt : List Int) : (bump b cnt).map D.int = (cnt.map D.int).set b (.int (cnt.getD b 0 + 1)) := by unfold bump; rw [List.map_set]
theorem getD_map {cnt : List Int} {b : Nat} (h : b < cnt.length) : (cnt.map D.int)[b]? = some (.int (cnt.getD b 0)) := by
  rw [List.getElem?_map, List.getElem?_eq_getElem h, List.getD_eq_getElem?_getD, List.getElem?_eq_getElem h]; rfl
noncomputable def WsEnd (raw : Str) (x dx : Addr) (n nt b : Int) (cnt : List Int) (fl : Fl) (ρ' κ' : Rho) (O' : Own) : Prop := ∃ c', fl = .next ∧ κ' = [] ∧ Fgt ρ' [("self", some (.v (.ref x))), ("ws", some (.str raw)), ("S", some (.str " ")), ("T", some (.str "\t")), ("count", some (.v (.ref c'))), ("b", some (.int b)), ("n", some (.int n)), ("nt", some (.int nt)), ("ch", none)]
      ∧ OS [(c', .list (cnt.map .int)), (x, .obj 264 dx), (dx, .dict (fs1 raw))] O' ∧ 0 ≤ b ∧ b ≤ 100000 ∧ cnt.length ≤ 100001
theorem c_wsinit (raw : Str) (x dx : Addr) (n nt b : Int) (cnt : List Int) (hraw : raw.cps.toList.length ≤ 100000) (hres : wsGo raw.cps.toList 0 0 0 [] = (n, nt, b, cnt)) :
    Cal (Γ1 w mg mb os) 1 (.ref 219) [.v (.ref x), .str raw] [] [(x, .obj 264 dx), (dx, .dict [])] fun d O' => d = .none ∧ OS [(x, .obj 264 dx), (dx, .dict (wsFs raw n nt cnt b (decide ((cnt.length : Int) ≤ 1))))] O' := by
  refine Cal.intro (params := ["self", "ws"]) (bds := [.v (.ref x), .str raw]) [("self", some (.v (.ref x))), ("ws", some (.str raw)), ("S", none), ("T", none), ("count", none), ("b", none), ("n", none), ("nt", none), ("ch", none)] [] rfl (by kernel_rfl) rfl ⟨rfl, rfl, rfl, rfl, rfl, rfl⟩
    (fun g s vs ks ok iv ik => ?_) (by decide +kernel) (by decide +kernel) (by decide +kernel) (by decide +kernel) (by kernel_rfl) (by kernel_rfl) fun A L room => ?_
  · obtain ⟨x, y, rfl, i, j⟩ := iv.two
    exact ⟨[x, y], .of_eq (by kernel_rfl), iv⟩
  · have hh := room.h
    (with_reducible refine Ss.cons ?_; refine' S1.as1 ?_ ?z1594hs ?z1594hw ?z1594he); (case z1594hs => rfl); (case z1594hw => rfl); (case z1594he => rfl); (with_reducible refine' Ev.loc ?z1595h ?_); (case z1595h => nest_cls); (with_reducible refine As.attr ?_; refine' Ev.loc ?z1597h ?_); (case z1597h => nest_cls); (with_reducible refine' set264 ?z1598ht ?z1598m ?z1598u ?z1598hf ?z1598hz ?_); (case z1598ht => first | with_reducible exact t_norm _ _ _ _ | with_reducible exact t_nt _ _ _ _ | with_reducible exact t_raw _ _ _ _ | with_reducible exact t_n _ _ _ _ | with_reducible exact t_is_simple _ _ _ _); (case z1598m => nest_cls); (case z1598u => nest_cls); (case z1598hf => kernel_rfl); (case z1598hz => exact Nat.le_of_ble_eq_true rfl); (with_reducible refine oupS ?_; refine oup0 ?_; refine Ss.cons ?_)
    refine' S1.swap2 (x := "S") (y := "T") hh ?_ ?hs ?hw
    case hs => rfl
    case hw => first | rfl | kernel_rfl
    (with_reducible refine Ev.tup ?_; refine' Evs.cons ?_ ?z1603he); (case z1603he => rfl); (with_reducible refine' Ev.attr ?_ ?z1604he); (case z1604he => rfl); (with_reducible refine' Ev.glo ?z1605h ?_ ?z1605hx); (case z1605h => with_reducible exact n_Whitespace _ _ _ _); (case z1605hx => kernel_rfl); (with_reducible refine getS264 ?_; refine' Evs.cons ?_ ?z1607he); (case z1607he => rfl); (with_reducible refine' Ev.attr ?_ ?z1608he); (case z1608he => rfl); (with_reducible refine' Ev.glo ?z1609h ?_ ?z1609hx); (case z1609h => with_reducible exact n_Whitespace _ _ _ _); (case z1609hx => kernel_rfl); (with_reducible refine getT264 ?_; refine Evs.nil ?_; refine And.intro (Nat.le_of_ble_eq_true rfl) ?_)
    refine ⟨_, _, rfl, ?_⟩
    (with_reducible refine Asl.cons ?_; refine As.bind ?_; refine put_3 ?_; refine Asl.cons ?_; refine As.bind ?_; refine put_2 ?_; refine Asl.nil ?_; refine Ss.cons ?_; refine' S1.asL ?_ ?z1626hs); (case z1626hs => rfl)
    refine Ev.lstO ?_
    (with_reducible refine Evs.nil ?_; refine And.intro (Nat.le_of_ble_eq_true rfl) ?_)
    intro cl
    (with_reducible refine put_4 ?_; refine Ss.cons ?_; refine' S1.as3n ?_ ?z1635he ?z1635hw); (case z1635he => rfl); (case z1635hw => rfl); (with_reducible refine Ev.int ?_; refine As.loc ?_; refine put_5 ?_; refine As.loc ?_; refine put_6 ?_; refine As.loc ?_; refine put_7 ?_; refine Ss.cons ?_)
    refine S1.mono (Q := WsEnd raw x dx n nt b cnt) ?_ ?_
    · refine' S1.forIn (σ := Int × Int × Int × List Int × Addr) (fun st => [("self", some (.v (.ref x))), ("ws", some (.str raw)), ("S", some (.str " ")), ("T", some (.str "\t")), ("count", some (.v (.ref st.2.2.2.2))), ("b", some (.int st.2.2.1)), ("n", some (.int st.1)), ("nt", some (.int st.2.1)), ("ch", none)]) (fun _ => [])
        (fun st => [(st.2.2.2.2, .list (st.2.2.2.1.map .int)), (x, .obj 264 dx), (dx, .dict (fs1 raw))])
        (fun st ds => ∃ rest : List Nat, ds = signs rest ∧ 0 ≤ st.2.2.1 ∧ st.2.2.1 + rest.length ≤ 100000 ∧ st.2.2.2.1.length ≤ 100001 ∧ wsGo rest st.1 st.2.1 st.2.2.1 st.2.2.2.1 = (n, nt, b, cnt)) hh ?_ ?_ ?_ ?hp ?hs
      case hp => rfl
      case hs => exact fun _ => rfl
      · (with_reducible refine' Ev.attr ?_ ?z1662he); (case z1662he => rfl); (with_reducible refine' Ev.loc ?z1663h ?_); (case z1663h => nest_cls); (with_reducible refine' attr264 ?z1664ha ?z1664o ?_); (case z1664ha => first | with_reducible exact a_norm _ _ _ _ | with_reducible exact a_nt _ _ _ _ | with_reducible exact a_raw _ _ _ _ | with_reducible exact a_n _ _ _ _); (case z1664o => (with_reducible refine' ObjOf.own ?z1664h1 ?z1664h2); (case z1664h1 => nest_cls); (case z1664h2 => nest_cls)); (with_reducible refine' fatL ?z1665h ?_); (case z1665h => kernel_rfl); (with_reducible refine' hq ?z1666h ?_); (case z1666h => rfl); (with_reducible refine GetI.str (fun _ => ?_))
        refine ⟨(0, 0, 0, [], cl), _, .refl, rfl, rfl, raw.cps.toList, rfl, Int.le_refl _, ?_, Nat.zero_le _, hres⟩
        dsimp only; exact om_1 hraw
      · rintro I ⟨n', nt', b', cnt', cl'⟩ d ds ⟨rest, e1, hb0, hb1, hc1, hgo⟩
        dsimp only at hb0 hb1 hc1 hgo ⊢
        cases rest with
        | nil => cases e1
        | cons c r =>
          obtain ⟨e11, e12⟩ := List.cons.inj e1
          subst e11 e12
          rw [List.length_cons] at hb1
          unfold wsGo at hgo
          have h32 : ((⟨#[c]⟩ : Str) == (" " : Str)) = (c == 32) := by rw [spaceIs]; exact sgn c 32
          have h9 : ((⟨#[c]⟩ : Str) == ("\t" : Str)) = (c == 9) := by rw [tabIs]; exact sgn c 9
          by_cases k32 : (c == 32) = true
          · rw [if_pos k32] at hgo
            have k : ((⟨#[c]⟩ : Str) == (" " : Str)) = true := h32.trans k32
            (with_reducible refine As.loc ?_; refine put_8 ?_; refine Ss.cons ?_; refine S1.ite ?_; refine' Te.cmp ?_ ?z1680hm); (case z1680hm => rfl); (with_reducible refine' Ev.loc ?z1681h ?_); (case z1681h => nest_cls); (with_reducible refine' Ev.loc ?z1682h ?_); (case z1682h => nest_cls); (with_reducible refine Op2.eqS ?_; refine Tr.bool ?_; refine ite_t (by with_reducible assumption) ?_; refine Ss.cons ?_; refine' S1.asL ?_ ?z1687hs); (case z1687hs => rfl); (with_reducible refine Ev.bin ?_; refine' Ev.loc ?z1689h ?_); (case z1689h => nest_cls); (with_reducible refine Ev.int ?_; refine Op2.addI ?_; refine put_6 ?_; refine Ss.cons ?_; refine' S1.asL ?_ ?z1700hs); (case z1700hs => rfl); (with_reducible refine Ev.bin ?_; refine' Ev.loc ?z1702h ?_); (case z1702h => nest_cls); (with_reducible refine Ev.int ?_; refine Op2.addI ?_; refine put_5 ?_; refine Ss.nil ?_; refine Ss.nil ?_)
            exact ⟨(n' + 1, nt', b' + 1, cnt', cl'), .keep (.keep (.keep (.keep (.keep (.keep (.keep (.keep (.drop .nil)))))))), rfl, .refl, r, rfl, by dsimp only; exact om_2 hb0, by dsimp only; exact om_3 hb1, hc1, hgo⟩
          · rw [if_neg k32] at hgo
            have k : ¬ ((⟨#[c]⟩ : Str) == (" " : Str)) = true := by rw [h32]; exact k32
            by_cases k9 : (c == 9) = true
            · rw [if_pos k9] at hgo
              have k' : ((⟨#[c]⟩ : Str) == ("\t" : Str)) = true := h9.trans k9
              have hlen : (cnt'.map D.int).length < 2 ^ 62 := by rw [List.length_map]; exact om_4 hc1
              have hlm : (cnt'.map D.int).length = cnt'.length := List.length_map ..
              by_cases kg : (decide ((((cnt'.map D.int).length : Nat) : Int) ≤ b')) = true
              · have kg' : (cnt'.length : Int) ≤ b' := by have := of_decide_eq_true kg; rwa [List.length_map] at this
                have eg : grown b' cnt' = cnt' ++ List.replicate (b' - cnt'.length + 1).toNat 0 := if_pos kg'
                have hgl : ((grown b' cnt').length : Int) = b' + 1 := by rw [eg, List.length_append, List.length_replicate]; exact om_5 hlm kg'
                have kd := of_decide_eq_true kg
                (with_reducible refine As.loc ?_; refine put_8 ?_; refine Ss.cons ?_; refine S1.ite ?_; refine' Te.cmp ?_ ?z1725hm); (case z1725hm => rfl); (with_reducible refine' Ev.loc ?z1726h ?_); (case z1726h => nest_cls); (with_reducible refine' Ev.loc ?z1727h ?_); (case z1727h => nest_cls); (with_reducible refine Op2.eqS ?_; refine Tr.bool ?_; refine ite_f (by with_reducible assumption) ?_; refine Ss.cons ?_; refine S1.ite ?_; refine' Te.cmp ?_ ?z1733hm); (case z1733hm => rfl); (with_reducible refine' Ev.loc ?z1734h ?_); (case z1734h => nest_cls); (with_reducible refine' Ev.loc ?z1735h ?_); (case z1735h => nest_cls); (with_reducible refine Op2.eqS ?_; refine Tr.bool ?_; refine ite_t (by with_reducible assumption) ?_; refine Ss.cons ?_; refine' S1.asL ?_ ?z1740hs); (case z1740hs => rfl); (with_reducible refine Ev.bin ?_; refine' Ev.loc ?z1742h ?_); (case z1742h => nest_cls); (with_reducible refine Ev.int ?_; refine Op2.addI ?_; refine put_6 ?_; refine Ss.cons ?_; refine' S1.asL ?_ ?z1753hs); (case z1753hs => rfl); (with_reducible refine Ev.bin ?_; refine' Ev.loc ?z1755h ?_); (case z1755h => nest_cls); (with_reducible refine Ev.int ?_; refine Op2.addI ?_; refine put_7 ?_; refine Ss.cons ?_; refine S1.ite ?_; refine' Te.cmp ?_ ?z1768hm); (case z1768hm => rfl); (with_reducible refine' Ev.loc ?z1769h ?_); (case z1769h => nest_cls); (with_reducible refine' Ev.call ?_ ?z1770hp); (case z1770hp => intro _; rfl); (with_reducible refine' Ev.bui ?z1771h ?_ ?z1771hx); (case z1771h => with_reducible exact b_len _ _ _ _); (case z1771hx => kernel_rfl); (with_reducible refine' ⟨_, rfl, ?z1772k, ?_⟩); (case z1772k => with_reducible exact Kp.bui); (with_reducible refine' Evs.cons ?_ ?z1773he); (case z1773he => rfl); (with_reducible refine' Ev.loc ?z1774h ?_); (case z1774h => nest_cls); (with_reducible refine Evs.nil ?_; refine' Ca.len ?z1776l ?z1776h ?_); (case z1776l => first | with_reducible exact LstOf.frz | ((with_reducible refine' LstOf.own ?z1776hm); (case z1776hm => nest_cls))); (case z1776h => with_reducible assumption); (with_reducible refine Op2.geI ?_; refine Tr.bool ?_; refine ite_t (by with_reducible assumption) ?_; refine Ss.cons ?_; refine' S1.asL ?_ ?z1781hs); (case z1781hs => rfl); (with_reducible refine Ev.bin ?_; refine' Ev.loc ?z1783h ?_); (case z1783h => nest_cls); (with_reducible refine Ev.bin ?_)
                refine Ev.lst ?_
                (with_reducible refine' Evs.cons ?_ ?z1785he); (case z1785he => rfl); (with_reducible refine Ev.int ?_; refine Evs.nil ?_; refine And.intro (Nat.le_of_ble_eq_true rfl) ?_; refine Ev.bin ?_; refine Ev.bin ?_; refine' Ev.loc ?z1791h ?_); (case z1791h => nest_cls); (with_reducible refine' Ev.call ?_ ?z1792hp); (case z1792hp => intro _; rfl); (with_reducible refine' Ev.bui ?z1793h ?_ ?z1793hx); (case z1793h => with_reducible exact b_len _ _ _ _); (case z1793hx => kernel_rfl); (with_reducible refine' ⟨_, rfl, ?z1794k, ?_⟩); (case z1794k => with_reducible exact Kp.bui); (with_reducible refine' Evs.cons ?_ ?z1795he); (case z1795he => rfl); (with_reducible refine' Ev.loc ?z1796h ?_); (case z1796h => nest_cls); (with_reducible refine Evs.nil ?_; refine' Ca.len ?z1798l ?z1798h ?_); (case z1798l => first | with_reducible exact LstOf.frz | ((with_reducible refine' LstOf.own ?z1798hm); (case z1798hm => nest_cls))); (case z1798h => with_reducible assumption); (with_reducible refine Op2.subI ?_; refine Ev.int ?_; refine Op2.addI ?_)
                refine' Op2.mulL1 LstOf.frz ?a ?b ?_
                case a => exact om_6 hlm kg' hgl
                case b => exact om_7 hb0 hc1 hb1 hlm hgl
                have hg : cnt'.map D.int ++ List.replicate (b' - ((cnt'.map D.int).length : Nat) + 1).toNat (.int 0) = (grown b' cnt').map D.int := by rw [eg, hlm]; simp
                refine' Op2.addLO (LstOf.own (.tail _ (.head _))) LstOf.frz ?c ?_
                case c => rw [List.length_replicate, hlm]; unfold sizeLine; exact om_8 hb0 hb1 hlm kg' hgl
                rw [hg]
                intro c2
                have hit : ((grown b' cnt').map D.int)[b'.toNat]? = some (.int ((grown b' cnt').getD b'.toNat 0)) := getD_map (by exact om_9 hb0 hgl)
                have hgm : ((grown b' cnt').map D.int).length = (grown b' cnt').length := List.length_map ..
                (with_reducible refine put_4 ?_; refine Ss.nil ?_; refine Ss.cons ?_; refine' S1.as1 ?_ ?z1809hs ?z1809hw ?z1809he); (case z1809hs => rfl); (case z1809hw => rfl); (case z1809he => rfl); (with_reducible refine Ev.bin ?_; refine Ev.sub ?_; refine' Ev.loc ?z1812h ?_); (case z1812h => nest_cls); (with_reducible refine' Ev.loc ?z1813h ?_); (case z1813h => nest_cls); (with_reducible refine' Op2.itemL ?z1814l ?z1814a ?z1814b ?z1814d ?_ ?z1814hs); (case z1814l => first | with_reducible exact LstOf.frz | ((with_reducible refine' LstOf.own ?z1814hm); (case z1814hm => nest_cls))); (case z1814a => with_reducible assumption); (case z1814b => exact om_10 hb1 hgl hgm); (case z1814d => first | with_reducible assumption | rfl); (case z1814hs => intros; rfl); (with_reducible refine Ev.int ?_; refine Op2.addI ?_; refine As.sub ?_; refine' Ev.loc ?z1818h ?_); (case z1818h => nest_cls); (with_reducible refine' Ev.loc ?z1819h ?_); (case z1819h => nest_cls); (with_reducible refine' setLk ?z1820a ?z1820b ?z1820c ?z1820m ?_); (case z1820m => nest_cls); (case z1820a => with_reducible assumption); (case z1820b => exact om_11 hgl hgm); (case z1820c => exact om_10 hb1 hgl hgm); (with_reducible refine oup0 ?_; refine Ss.cons ?_; refine' S1.asL ?_ ?z1823hs); (case z1823hs => rfl); (with_reducible refine Ev.int ?_; refine put_5 ?_; refine Ss.nil ?_; refine Ss.nil ?_; refine Ss.nil ?_)
                refine ⟨(n' + 1, nt' + 1, 0, bump b'.toNat (grown b' cnt'), c2), .keep (.keep (.keep (.keep (.keep (.keep (.keep (.keep (.drop .nil)))))))), rfl, ?_, r, rfl, Int.le_refl _, by dsimp only; exact om_12 hb0 hb1 hgl hgm, ?_, hgo⟩
                · dsimp only
                  rw [bump_map]
                  exact OS.swap (.cons_cons _ (.cons_cons _ (.cons _ (List.Sublist.refl _))))
                · dsimp only; unfold bump; rw [List.length_set]; exact om_13 hb1 hgl hgm
              · have kg' : ¬ (cnt'.length : Int) ≤ b' := by have := of_decide_eq_false (Bool.not_eq_true _ ▸ kg); rwa [List.length_map] at this
                have eg : grown b' cnt' = cnt' := if_neg kg'
                rw [eg] at hgo
                have hit : (cnt'.map D.int)[b'.toNat]? = some (.int (cnt'.getD b'.toNat 0)) := getD_map (by exact om_14 hb0 hc1 hlm kg')
                (with_reducible refine As.loc ?_; refine put_8 ?_; refine Ss.cons ?_; refine S1.ite ?_; refine' Te.cmp ?_ ?z1846hm); (case z1846hm => rfl); (with_reducible refine' Ev.loc ?z1847h ?_); (case z1847h => nest_cls); (with_reducible refine' Ev.loc ?z1848h ?_); (case z1848h => nest_cls); (with_reducible refine Op2.eqS ?_; refine Tr.bool ?_; refine ite_f (by with_reducible assumption) ?_; refine Ss.cons ?_; refine S1.ite ?_; refine' Te.cmp ?_ ?z1854hm); (case z1854hm => rfl); (with_reducible refine' Ev.loc ?z1855h ?_); (case z1855h => nest_cls); (with_reducible refine' Ev.loc ?z1856h ?_); (case z1856h => nest_cls); (with_reducible refine Op2.eqS ?_; refine Tr.bool ?_; refine ite_t (by with_reducible assumption) ?_; refine Ss.cons ?_; refine' S1.asL ?_ ?z1861hs); (case z1861hs => rfl); (with_reducible refine Ev.bin ?_; refine' Ev.loc ?z1863h ?_); (case z1863h => nest_cls); (with_reducible refine Ev.int ?_; refine Op2.addI ?_; refine put_6 ?_; refine Ss.cons ?_; refine' S1.asL ?_ ?z1874hs); (case z1874hs => rfl); (with_reducible refine Ev.bin ?_; refine' Ev.loc ?z1876h ?_); (case z1876h => nest_cls); (with_reducible refine Ev.int ?_; refine Op2.addI ?_; refine put_7 ?_; refine Ss.cons ?_; refine S1.ite ?_; refine' Te.cmp ?_ ?z1889hm); (case z1889hm => rfl); (with_reducible refine' Ev.loc ?z1890h ?_); (case z1890h => nest_cls); (with_reducible refine' Ev.call ?_ ?z1891hp); (case z1891hp => intro _; rfl); (with_reducible refine' Ev.bui ?z1892h ?_ ?z1892hx); (case z1892h => with_reducible exact b_len _ _ _ _); (case z1892hx => kernel_rfl); (with_reducible refine' ⟨_, rfl, ?z1893k, ?_⟩); (case z1893k => with_reducible exact Kp.bui); (with_reducible refine' Evs.cons ?_ ?z1894he); (case z1894he => rfl); (with_reducible refine' Ev.loc ?z1895h ?_); (case z1895h => nest_cls); (with_reducible refine Evs.nil ?_; refine' Ca.len ?z1897l ?z1897h ?_); (case z1897l => first | with_reducible exact LstOf.frz | ((with_reducible refine' LstOf.own ?z1897hm); (case z1897hm => nest_cls))); (case z1897h => with_reducible assumption); (with_reducible refine Op2.geI ?_; refine Tr.bool ?_; refine ite_f (by with_reducible assumption) ?_; refine Ss.nil ?_; refine Ss.cons ?_; refine' S1.as1 ?_ ?z1903hs ?z1903hw ?z1903he); (case z1903hs => rfl); (case z1903hw => rfl); (case z1903he => rfl); (with_reducible refine Ev.bin ?_; refine Ev.sub ?_; refine' Ev.loc ?z1906h ?_); (case z1906h => nest_cls); (with_reducible refine' Ev.loc ?z1907h ?_); (case z1907h => nest_cls); (with_reducible refine' Op2.itemL ?z1908l ?z1908a ?z1908b ?z1908d ?_ ?z1908hs); (case z1908l => first | with_reducible exact LstOf.frz | ((with_reducible refine' LstOf.own ?z1908hm); (case z1908hm => nest_cls))); (case z1908a => with_reducible assumption); (case z1908b => exact om_15 hb1); (case z1908d => first | with_reducible assumption | rfl); (case z1908hs => intros; rfl); (with_reducible refine Ev.int ?_; refine Op2.addI ?_; refine As.sub ?_; refine' Ev.loc ?z1912h ?_); (case z1912h => nest_cls); (with_reducible refine' Ev.loc ?z1913h ?_); (case z1913h => nest_cls); (with_reducible refine' setLk ?z1914a ?z1914b ?z1914c ?z1914m ?_); (case z1914m => nest_cls); (case z1914a => with_reducible assumption); (case z1914b => exact om_16 hlm kg'); (case z1914c => exact om_15 hb1); (with_reducible refine oupS ?_; refine oup0 ?_; refine Ss.cons ?_; refine' S1.asL ?_ ?z1918hs); (case z1918hs => rfl); (with_reducible refine Ev.int ?_; refine put_5 ?_; refine Ss.nil ?_; refine Ss.nil ?_; refine Ss.nil ?_)
                refine ⟨(n' + 1, nt' + 1, 0, bump b'.toNat cnt', cl'), .keep (.keep (.keep (.keep (.keep (.keep (.keep (.keep (.drop .nil)))))))), rfl, ?_, r, rfl, Int.le_refl _, by dsimp only; exact om_17 hb0 hb1, ?_, hgo⟩
                · dsimp only
                  rw [bump_map]
                  exact .refl
                · dsimp only; unfold bump; rw [List.length_set]; exact hc1
            · rw [if_neg k9] at hgo
              have k' : ¬ ((⟨#[c]⟩ : Str) == ("\t" : Str)) = true := by rw [h9]; exact k9
              cases hgo
              (with_reducible refine As.loc ?_; refine put_8 ?_; refine Ss.cons ?_; refine S1.ite ?_; refine' Te.cmp ?_ ?z1941hm); (case z1941hm => rfl); (with_reducible refine' Ev.loc ?z1942h ?_); (case z1942h => nest_cls); (with_reducible refine' Ev.loc ?z1943h ?_); (case z1943h => nest_cls); (with_reducible refine Op2.eqS ?_; refine Tr.bool ?_; refine ite_f (by with_reducible assumption) ?_; refine Ss.cons ?_; refine S1.ite ?_; refine' Te.cmp ?_ ?z1949hm); (case z1949hm => rfl); (with_reducible refine' Ev.loc ?z1950h ?_); (case z1950h => nest_cls); (with_reducible refine' Ev.loc ?z1951h ?_); (case z1951h => nest_cls); (with_reducible refine Op2.eqS ?_; refine Tr.bool ?_; refine ite_f (by with_reducible assumption) ?_; refine Ss.cons ?_; refine S1.brk ?_)
              exact ⟨cl', rfl, rfl, .keep (.keep (.keep (.keep (.keep (.keep (.keep (.keep (.drop .nil)))))))), .of (.cons _ (List.Sublist.refl _)), hb0, by exact om_18 hb1, hc1⟩
      · rintro ⟨n', nt', b', cnt', cl'⟩ ⟨rest, e1, hb0, hb1, hc1, hgo⟩
        cases rest with
        | cons c r => cases e1
        | nil =>
          cases hgo
          exact ⟨cl', rfl, rfl, .refl, .refl, hb0, by dsimp only at hb1; simp at hb1; omega, hc1⟩
    · rintro fl ρ' κ' O' ⟨c', rfl, rfl, hf, ho, hb0, hb1, hc1⟩
      refine Exs.weak hf ho ?_
      have hlen : (cnt.map D.int).length < 2 ^ 62 := by rw [List.length_map]; exact om_4 hc1
      have hlz : (cnt.map D.int).length ≤ sizeLine := by rw [List.length_map]; unfold sizeLine; exact om_20 hc1
      have hlm : (cnt.map D.int).length = cnt.length := List.length_map ..
      (with_reducible refine Ss.cons ?_; refine' S1.as1 ?_ ?z1958hs ?z1958hw ?z1958he); (case z1958hs => rfl); (case z1958hw => rfl); (case z1958he => rfl); (with_reducible refine' Ev.loc ?z1959h ?_); (case z1959h => nest_cls); (with_reducible refine As.attr ?_; refine' Ev.loc ?z1961h ?_); (case z1961h => nest_cls); (with_reducible refine' set264 ?z1962ht ?z1962m ?z1962u ?z1962hf ?z1962hz ?_); (case z1962ht => first | with_reducible exact t_norm _ _ _ _ | with_reducible exact t_nt _ _ _ _ | with_reducible exact t_raw _ _ _ _ | with_reducible exact t_n _ _ _ _ | with_reducible exact t_is_simple _ _ _ _); (case z1962m => nest_cls); (case z1962u => nest_cls); (case z1962hf => kernel_rfl); (case z1962hz => exact Nat.le_of_ble_eq_true rfl); (with_reducible refine oupS ?_; refine oupS ?_; refine oup0 ?_; refine Ss.cons ?_; refine' S1.as1 ?_ ?z1967hs ?z1967hw ?z1967he); (case z1967hs => rfl); (case z1967hw => rfl); (case z1967he => rfl); (with_reducible refine' Ev.loc ?z1968h ?_); (case z1968h => nest_cls); (with_reducible refine As.attr ?_; refine' Ev.loc ?z1970h ?_); (case z1970h => nest_cls); (with_reducible refine' set264 ?z1971ht ?z1971m ?z1971u ?z1971hf ?z1971hz ?_); (case z1971ht => first | with_reducible exact t_norm _ _ _ _ | with_reducible exact t_nt _ _ _ _ | with_reducible exact t_raw _ _ _ _ | with_reducible exact t_n _ _ _ _ | with_reducible exact t_is_simple _ _ _ _); (case z1971m => nest_cls); (case z1971u => nest_cls); (case z1971hf => kernel_rfl); (case z1971hz => exact Nat.le_of_ble_eq_true rfl); (with_reducible refine oupS ?_; refine oupS ?_; refine oup0 ?_; refine Ss.cons ?_; refine' S1.as1 ?_ ?z1976hs ?z1976hw ?z1976he); (case z1976hs => rfl); (case z1976hw => rfl); (case z1976he => rfl); (with_reducible refine Ev.tup ?_; refine' Evs.cons ?_ ?z1978he); (case z1978he => rfl); (with_reducible refine' Ev.call ?_ ?z1979hp); (case z1979hp => intro _; rfl); (with_reducible refine' Ev.bui ?z1980h ?_ ?z1980hx); (case z1980h => with_reducible exact b_tuple _ _ _ _); (case z1980hx => kernel_rfl); (with_reducible refine' ⟨_, rfl, ?z1981k, ?_⟩); (case z1981k => with_reducible exact Kp.typ); (with_reducible refine' Evs.cons ?_ ?z1982he); (case z1982he => rfl); (with_reducible refine' Ev.loc ?z1983h ?_); (case z1983h => nest_cls); (with_reducible refine Evs.nil ?_; refine' Ca.tupL ?z1985l ?z1985h ?_); (case z1985l => first | with_reducible exact LstOf.frz | ((with_reducible refine' LstOf.own ?z1985hm); (case z1985hm => nest_cls))); (case z1985h => with_reducible assumption); (with_reducible refine' Evs.cons ?_ ?z1986he); (case z1986he => rfl); (with_reducible refine' Ev.loc ?z1987h ?_); (case z1987h => nest_cls); (with_reducible refine Evs.nil ?_; refine And.intro (Nat.le_of_ble_eq_true rfl) ?_; refine As.attr ?_; refine' Ev.loc ?z1991h ?_); (case z1991h => nest_cls); (with_reducible refine' set264 ?z1992ht ?z1992m ?z1992u ?z1992hf ?z1992hz ?_); (case z1992ht => first | with_reducible exact t_norm _ _ _ _ | with_reducible exact t_nt _ _ _ _ | with_reducible exact t_raw _ _ _ _ | with_reducible exact t_n _ _ _ _ | with_reducible exact t_is_simple _ _ _ _); (case z1992m => nest_cls); (case z1992u => nest_cls); (case z1992hf => kernel_rfl); (case z1992hz => exact Nat.le_of_ble_eq_true rfl); (with_reducible refine oupS ?_; refine oupS ?_; refine oup0 ?_; refine Ss.cons ?_; refine' S1.as1 ?_ ?z1997hs ?z1997hw ?z1997he); (case z1997hs => rfl); (case z1997hw => rfl); (case z1997he => rfl); (with_reducible refine' Ev.cmp ?_ ?z1998hm); (case z1998hm => rfl); (with_reducible refine' Ev.call ?_ ?z1999hp); (case z1999hp => intro _; rfl); (with_reducible refine' Ev.bui ?z2000h ?_ ?z2000hx); (case z2000h => with_reducible exact b_len _ _ _ _); (case z2000hx => kernel_rfl); (with_reducible refine' ⟨_, rfl, ?z2001k, ?_⟩); (case z2001k => with_reducible exact Kp.bui); (with_reducible refine' Evs.cons ?_ ?z2002he); (case z2002he => rfl); (with_reducible refine' Ev.loc ?z2003h ?_); (case z2003h => nest_cls); (with_reducible refine Evs.nil ?_; refine' Ca.len ?z2005l ?z2005h ?_); (case z2005l => first | with_reducible exact LstOf.frz | ((with_reducible refine' LstOf.own ?z2005hm); (case z2005hm => nest_cls))); (case z2005h => with_reducible assumption); (with_reducible refine Ev.int ?_; refine Op2.leI ?_; refine As.attr ?_; refine' Ev.loc ?z2009h ?_); (case z2009h => nest_cls); (with_reducible refine' set264 ?z2010ht ?z2010m ?z2010u ?z2010hf ?z2010hz ?_); (case z2010ht => first | with_reducible exact t_norm _ _ _ _ | with_reducible exact t_nt _ _ _ _ | with_reducible exact t_raw _ _ _ _ | with_reducible exact t_n _ _ _ _ | with_reducible exact t_is_simple _ _ _ _); (case z2010m => nest_cls); (case z2010u => nest_cls); (case z2010hf => kernel_rfl); (case z2010hz => exact Nat.le_of_ble_eq_true rfl); (with_reducible refine oupS ?_; refine oupS ?_; refine oup0 ?_; refine Ss.nil ?_)
      rw [hlm]
      exact ⟨_, .next, rfl, .of (.cons _ (List.Sublist.refl _))⟩
end
section
variable (w : World) (mg mb : Str → Option Value) (os : OsState)
theorem c_conv (me : D) (v : Str) (b : Bool) (hn : noHit (if b then codeN else codeV) v = true) : Cal (Γ1 w mg mb os) 1 (.ref 83) [me, .str v] [("name", .bool b)] [] fun d O' => O' = [] ∧ d = .str v := by
  refine Cal.intro (params := ["self", "value", "name"]) (bds := [me, .str v, .bool b]) [("self", some me), ("value", some (.str v)), ("name", some (.bool b)), ("regex", none)] [] rfl (by kernel_rfl) rfl ⟨rfl, rfl, rfl, rfl, rfl, rfl⟩
    (fun g s vs ks ok iv ik => ?_) (by decide +kernel) (by decide +kernel) (by decide +kernel) (by decide +kernel) (by kernel_rfl) (by kernel_rfl) fun A L room => ?_
  · obtain ⟨x, y, rfl, i, j⟩ := iv.two
    obtain ⟨z, rfl, k⟩ := InL.one ik
    exact ⟨[x, y, z], .of_eq (by kernel_rfl), .cons i (.cons j (.cons k .nil))⟩
  · have hh := room.h
    cases b with
    | true =>
      rw [if_pos rfl] at hn
      (with_reducible refine Ss.cons ?_; refine S1.ite ?_; refine' Te.cmp ?_ ?z2017hm); (case z2017hm => rfl); (with_reducible refine' Ev.call ?_ ?z2018hp); (case z2018hp => intro _; rfl); (with_reducible refine' Ev.bui ?z2019h ?_ ?z2019hx); (case z2019h => with_reducible exact b_type _ _ _ _); (case z2019hx => kernel_rfl); (with_reducible refine' ⟨_, rfl, ?z2020k, ?_⟩); (case z2020k => with_reducible exact Kp.typ); (with_reducible refine' Evs.cons ?_ ?z2021he); (case z2021he => rfl); (with_reducible refine' Ev.loc ?z2022h ?_); (case z2022h => nest_cls); (with_reducible refine Evs.nil ?_; refine' Ca.type ?z2024h ?z2024hb ?_); (case z2024h => rfl); (case z2024hb => decide); (with_reducible refine' Ev.bui ?z2025h ?_ ?z2025hx); (case z2025h => with_reducible exact b_str _ _ _ _); (case z2025hx => kernel_rfl); (with_reducible refine' Op2.isV ?z2026h ?_); (case z2026h => rfl); (with_reducible refine Tr.bool ?_; refine ite_t rfl ?_; refine Ss.cons ?_; refine' S1.asL ?_ ?z2030hs); (case z2030hs => rfl); (with_reducible refine Ev.ife ?_; refine' Te.val ?_ ?z2032he); (case z2032he => rfl); (with_reducible refine' Ev.loc ?z2033h ?_); (case z2033h => nest_cls); (with_reducible refine Tr.bool ?_; refine ite_t rfl ?_; refine' Ev.glo ?z2036h ?_ ?z2036hx); (case z2036h => with_reducible exact n__name_disallowed_re _ _ _ _); (case z2036hx => kernel_rfl); (with_reducible refine put_3 ?_; refine Ss.cons ?_; refine S1.ite ?_; refine' Te.val ?_ ?z2043he); (case z2043he => rfl); (with_reducible refine' Ev.meth ?_ ?z2044hm ?z2044hp); (case z2044hm => exact ⟨_, rfl⟩); (case z2044hp => intro _; rfl); (with_reducible refine' Ev.loc ?z2045h ?_); (case z2045h => nest_cls); (with_reducible refine' GetM.pat ?z2046h ?_); (case z2046h => first | with_reducible exact pat48 _ _ _ _ | with_reducible exact pat53 _ _ _ _); (with_reducible refine' And.intro ?z2047k ?_); (case z2047k => with_reducible exact Kp.bui); (with_reducible refine' Evs.cons ?_ ?z2048he); (case z2048he => rfl); (with_reducible refine' Ev.loc ?z2049h ?_); (case z2049h => nest_cls); (with_reducible refine Evs.nil ?_; refine Ca.app1 ?_; refine' Ca.noHit ?z2052h ?z2052n ?_); (case z2052h => first | with_reducible exact pat48 _ _ _ _ | with_reducible exact pat53 _ _ _ _); (case z2052n => with_reducible assumption); (with_reducible refine Tr.non ?_; refine ite_f Bool.false_ne_true ?_; refine Ss.nil ?_; refine Ss.cons ?_; refine S1.ret ?_; refine' Ev.loc ?z2058h ?_); (case z2058h => nest_cls)
      exact ⟨_, .ret, rfl, rfl⟩
    | false =>
      rw [if_neg (by decide)] at hn
      (with_reducible refine Ss.cons ?_; refine S1.ite ?_; refine' Te.cmp ?_ ?z2061hm); (case z2061hm => rfl); (with_reducible refine' Ev.call ?_ ?z2062hp); (case z2062hp => intro _; rfl); (with_reducible refine' Ev.bui ?z2063h ?_ ?z2063hx); (case z2063h => with_reducible exact b_type _ _ _ _); (case z2063hx => kernel_rfl); (with_reducible refine' ⟨_, rfl, ?z2064k, ?_⟩); (case z2064k => with_reducible exact Kp.typ); (with_reducible refine' Evs.cons ?_ ?z2065he); (case z2065he => rfl); (with_reducible refine' Ev.loc ?z2066h ?_); (case z2066h => nest_cls); (with_reducible refine Evs.nil ?_; refine' Ca.type ?z2068h ?z2068hb ?_); (case z2068h => rfl); (case z2068hb => decide); (with_reducible refine' Ev.bui ?z2069h ?_ ?z2069hx); (case z2069h => with_reducible exact b_str _ _ _ _); (case z2069hx => kernel_rfl); (with_reducible refine' Op2.isV ?z2070h ?_); (case z2070h => rfl); (with_reducible refine Tr.bool ?_; refine ite_t rfl ?_; refine Ss.cons ?_; refine' S1.asL ?_ ?z2074hs); (case z2074hs => rfl); (with_reducible refine Ev.ife ?_; refine' Te.val ?_ ?z2076he); (case z2076he => rfl); (with_reducible refine' Ev.loc ?z2077h ?_); (case z2077h => nest_cls); (with_reducible refine Tr.bool ?_; refine ite_f Bool.false_ne_true ?_; refine' Ev.glo ?z2080h ?_ ?z2080hx); (case z2080h => with_reducible exact n__value_disallowed_re _ _ _ _); (case z2080hx => kernel_rfl); (with_reducible refine put_3 ?_; refine Ss.cons ?_; refine S1.ite ?_; refine' Te.val ?_ ?z2087he); (case z2087he => rfl); (with_reducible refine' Ev.meth ?_ ?z2088hm ?z2088hp); (case z2088hm => exact ⟨_, rfl⟩); (case z2088hp => intro _; rfl); (with_reducible refine' Ev.loc ?z2089h ?_); (case z2089h => nest_cls); (with_reducible refine' GetM.pat ?z2090h ?_); (case z2090h => first | with_reducible exact pat48 _ _ _ _ | with_reducible exact pat53 _ _ _ _); (with_reducible refine' And.intro ?z2091k ?_); (case z2091k => with_reducible exact Kp.bui); (with_reducible refine' Evs.cons ?_ ?z2092he); (case z2092he => rfl); (with_reducible refine' Ev.loc ?z2093h ?_); (case z2093h => nest_cls); (with_reducible refine Evs.nil ?_; refine Ca.app1 ?_; refine' Ca.noHit ?z2096h ?z2096n ?_); (case z2096h => first | with_reducible exact pat48 _ _ _ _ | with_reducible exact pat53 _ _ _ _); (case z2096n => with_reducible assumption); (with_reducible refine Tr.non ?_; refine ite_f Bool.false_ne_true ?_; refine Ss.nil ?_; refine Ss.cons ?_; refine S1.ret ?_; refine' Ev.loc ?z2102h ?_); (case z2102h => nest_cls)
      exact ⟨_, .ret, rfl, rfl⟩
end
section
variable (w : World) (mg mb : Str → Option Value) (os : OsState)
theorem conv_ca {A : Around} {O : Own} {me : D} {v : Str} {b : Bool} {Q : D → Own → Prop} (r : Room A 1) (hn : noHit (if b then codeN else codeV) v = true) (q : Q (.str v) O) : Ca (Γ1 w mg mb os) A O (.ref 83) [me, .str v] [("name", .bool b)] Q :=
  Cal.ca (Cal.pure (c_conv w mg mb os me v b hn) fun d O' h => ⟨h.1, by rw [h.2]; exact q⟩) r
noncomputable abbrev itemsD (l : List (Str × Str)) : List D := l.map fun p => .tup [.str p.1, .str p.2]
noncomputable abbrev fsH (la : Addr) : List (Str × D) := [] ++ [(("_headers" : Str), D.v (.ref la))]
noncomputable abbrev hdFs (la : Addr) : List (Str × D) := [("_headers", .v (.ref la))]
noncomputable abbrev me (la : Addr) : D := .inst 184 (hdFs la)
noncomputable def okName (x : Str) : Bool := decide ((lowered x).length ≤ sizeLine) && noHit codeN (lowered x)
noncomputable def getGo (nm : Str) : List (Str × Str) → D
  | [] => .none
  | p :: r => if (lowered p.1 == lowered nm) = true then .str p.2 else getGo nm r
theorem c_get (la : Addr) (l : List (Str × Str)) (nm : Str) (h1 : okName nm = true) (h2 : ∀ p ∈ l, (lowered p.1).length ≤ sizeLine) :
    Cal (Γ1 w mg mb os) 2 (.ref 131) [me la, .str nm] [] [(la, .list (itemsD l))] fun d O' => OS [(la, .list (itemsD l))] O' ∧ d = getGo nm l := by
  refine Cal.intro (params := ["self", "name", "default"]) (bds := [me la, .str nm, .none]) [("self", some (me la)), ("name", some (.str nm)), ("default", some .none), ("k", none), ("v", none)] [] rfl (by kernel_rfl) rfl ⟨rfl, rfl, rfl, rfl, rfl, rfl⟩
    (fun g s vs ks ok iv ik => ?_) (by decide +kernel) (by decide +kernel) (by decide +kernel) (by decide +kernel) (by kernel_rfl) (by kernel_rfl) fun A L room => ?_
  · obtain ⟨x, y, rfl, i, j⟩ := iv.two
    exact ⟨[x, y, .none], binds_K (K := (Γ1 w mg mb os).K) ok.kin rfl rfl rfl rfl rfl, .cons i (.cons j (.cons .none .nil))⟩
  · have hh := room.h
    unfold okName at h1
    rw [Bool.and_eq_true] at h1
    have h11 := of_decide_eq_true h1.1
    (with_reducible refine Ss.cons ?_; refine' S1.asL ?_ ?z2104hs); (case z2104hs => rfl); (with_reducible refine' Ev.methK (ks := ["name"]) ?_ ?z2105a ?z2105b ?z2105c ?z2105d ?z2105e ?z2105f); (case z2105a => exact ⟨_, rfl⟩); (case z2105b => intro _; rfl); (case z2105c => intro _; rfl); (case z2105d => intro _; rfl); (case z2105e => intro _; rfl); (case z2105f => exact fun _ => ⟨_, _, rfl⟩); (with_reducible refine' Ev.loc ?z2106h ?_); (case z2106h => nest_cls); (with_reducible refine' meth184 ?z2107hf ?z2107ht ?z2107o ?z2107hs ?_); (case z2107hf => lcg_sub); (case z2107ht => lcg_off); (case z2107o => with_reducible exact ObjOf.frz); (case z2107hs => kernel_rfl); (with_reducible refine' And.intro ?z2108k ?_); (case z2108k => with_reducible exact k_83 _ _ _ _); (with_reducible refine' Evs.cons ?_ ?z2109he); (case z2109he => rfl); (with_reducible refine' Ev.meth ?_ ?z2110hm ?z2110hp); (case z2110hm => exact ⟨_, rfl⟩); (case z2110hp => intro _; rfl); (with_reducible refine' Ev.loc ?z2111h ?_); (case z2111h => nest_cls); (with_reducible refine' GetM.str ?z2112sl ?z2112ty ?_); (case z2112sl => first | with_reducible exact PySem.F.slot_str_lower | with_reducible exact PySem.F.slot_str_upper); (case z2112ty => first | with_reducible exact PySem.F.type_str_lower | with_reducible exact PySem.F.type_str_upper); (with_reducible refine' And.intro ?z2113k ?_); (case z2113k => with_reducible exact Kp.bui); (with_reducible refine Evs.nil ?_; refine Ca.app1 ?_; refine' Ca.lower ?z2116h ?_); (case z2116h => with_reducible assumption); (with_reducible refine Evs.nil ?_; refine EvK.one ?_; refine Ev.bool ?_; refine' And.intro ?z2120k ?_); (case z2120k => kwd_rel); (with_reducible refine Ca.app1 ?_; refine Ca.zip1 ?_)
    refine conv_ca w mg mb os room (b := true) (by rw [if_pos rfl]; exact h1.2) ?_
    (with_reducible refine put_1 ?_; refine Ss.cons ?_)
    refine' S1.forLit (σ := Unit) (fun _ => [("self", some (me la)), ("name", some (.str (lowered nm))), ("default", some .none), ("k", none), ("v", none)]) (fun _ => []) (fun _ => [(la, .list (itemsD l))])
      (fun _ ds => ∃ r : List (Str × Str), ds = itemsD r ∧ (∀ p ∈ r, (lowered p.1).length ≤ sizeLine) ∧ getGo nm r = getGo nm l) la (itemsD l) (fun _ => .head _) hh ?_ ?_ ?_ ?hp ?hs
    case hp => rfl
    case hs => exact fun _ => rfl
    · (with_reducible refine' Ev.attr ?_ ?z2126he); (case z2126he => rfl); (with_reducible refine' Ev.loc ?z2127h ?_); (case z2127h => nest_cls); (with_reducible refine' attr184 ?z2128ha ?z2128o ?_); (case z2128ha => with_reducible exact a__headers _ _ _ _); (case z2128o => with_reducible exact ObjOf.frz); (with_reducible refine fat0 ?_; refine' hq ?z2130h ?_); (case z2130h => rfl)
      refine GetI.own (ds := itemsD l) (.head _) fun I => ?_
      exact ⟨(), .refl, rfl, rfl, l, rfl, h2, rfl⟩
    · rintro I - i d ds ⟨r, e, hr, hg⟩
      cases r with
      | nil => cases e
      | cons p r =>
        obtain ⟨k, v⟩ := p
        obtain ⟨e1, e2⟩ := List.cons.inj e
        subst e1 e2
        have hk := hr _ (.head _)
        have hg : (if (lowered k == lowered nm) = true then D.str v else getGo nm r) = getGo nm l := hg
        dsimp only at hk ⊢
        by_cases c : (lowered k == lowered nm) = true
        · rw [if_pos c] at hg
          (with_reducible refine' As.tup2 ?z2131hh ?_); (case z2131hh => with_reducible assumption); (with_reducible refine Asl.cons ?_; refine As.loc ?_; refine put_3 ?_; refine Asl.cons ?_; refine As.loc ?_; refine put_4 ?_; refine Asl.nil ?_; refine Ss.cons ?_; refine S1.ite ?_; refine' Te.cmp ?_ ?z2148hm); (case z2148hm => rfl); (with_reducible refine' Ev.meth ?_ ?z2149hm ?z2149hp); (case z2149hm => exact ⟨_, rfl⟩); (case z2149hp => intro _; rfl); (with_reducible refine' Ev.loc ?z2150h ?_); (case z2150h => nest_cls); (with_reducible refine' GetM.str ?z2151sl ?z2151ty ?_); (case z2151sl => first | with_reducible exact PySem.F.slot_str_lower | with_reducible exact PySem.F.slot_str_upper); (case z2151ty => first | with_reducible exact PySem.F.type_str_lower | with_reducible exact PySem.F.type_str_upper); (with_reducible refine' And.intro ?z2152k ?_); (case z2152k => with_reducible exact Kp.bui); (with_reducible refine Evs.nil ?_; refine Ca.app1 ?_; refine' Ca.lower ?z2155h ?_); (case z2155h => with_reducible assumption); (with_reducible refine' Ev.loc ?z2156h ?_); (case z2156h => nest_cls); (with_reducible refine Op2.eqS ?_; refine Tr.bool ?_; refine ite_t (by with_reducible assumption) ?_; refine Ss.cons ?_; refine S1.ret ?_; refine' Ev.loc ?z2162h ?_); (case z2162h => nest_cls)
          exact ⟨_, .ret, .of (.cons _ (List.Sublist.refl _)), hg⟩
        · rw [if_neg c] at hg
          (with_reducible refine' As.tup2 ?z2163hh ?_); (case z2163hh => with_reducible assumption); (with_reducible refine Asl.cons ?_; refine As.loc ?_; refine put_3 ?_; refine Asl.cons ?_; refine As.loc ?_; refine put_4 ?_; refine Asl.nil ?_; refine Ss.cons ?_; refine S1.ite ?_; refine' Te.cmp ?_ ?z2180hm); (case z2180hm => rfl); (with_reducible refine' Ev.meth ?_ ?z2181hm ?z2181hp); (case z2181hm => exact ⟨_, rfl⟩); (case z2181hp => intro _; rfl); (with_reducible refine' Ev.loc ?z2182h ?_); (case z2182h => nest_cls); (with_reducible refine' GetM.str ?z2183sl ?z2183ty ?_); (case z2183sl => first | with_reducible exact PySem.F.slot_str_lower | with_reducible exact PySem.F.slot_str_upper); (case z2183ty => first | with_reducible exact PySem.F.type_str_lower | with_reducible exact PySem.F.type_str_upper); (with_reducible refine' And.intro ?z2184k ?_); (case z2184k => with_reducible exact Kp.bui); (with_reducible refine Evs.nil ?_; refine Ca.app1 ?_; refine' Ca.lower ?z2187h ?_); (case z2187h => with_reducible assumption); (with_reducible refine' Ev.loc ?z2188h ?_); (case z2188h => nest_cls); (with_reducible refine Op2.eqS ?_; refine Tr.bool ?_; refine ite_f (by with_reducible assumption) ?_; refine Ss.nil ?_; refine Ss.nil ?_)
          exact ⟨(), .keep (.keep (.keep (.drop (.drop .nil)))), rfl, .refl, r, rfl, fun p hp => hr p (.tail _ hp), hg⟩
    · rintro - ⟨r, e, hr, hg⟩
      cases r with
      | cons p r => cases e
      | nil =>
        (with_reducible refine Ss.cons ?_; refine S1.ret ?_; refine' Ev.loc ?z2196h ?_); (case z2196h => nest_cls)
        exact ⟨_, .ret, .refl, hg⟩
theorem c_sdefS (la : Addr) (l : List (Str × Str)) (nm v u : Str) (h1 : okName nm = true) (h2 : ∀ p ∈ l, (lowered p.1).length ≤ sizeLine) (hg : getGo nm l = .str u) :
    Cal (Γ1 w mg mb os) 3 (.ref 174) [me la, .str nm, .str v] [] [(la, .list (itemsD l))] fun d O' => OS [(la, .list (itemsD l))] O' ∧ d = .str u := by
  refine Cal.intro (params := ["self", "name", "value"]) (bds := [me la, .str nm, .str v]) [("self", some (me la)), ("name", some (.str nm)), ("value", some (.str v)), ("result", none)] [] rfl (by kernel_rfl) rfl ⟨rfl, rfl, rfl, rfl, rfl, rfl⟩
    (fun g s vs ks ok iv ik => ?_) (by decide +kernel) (by decide +kernel) (by decide +kernel) (by decide +kernel) (by kernel_rfl) (by kernel_rfl) fun A L room => ?_
  · obtain ⟨x, y, z, rfl, i, j, k⟩ := iv.three
    exact ⟨[x, y, z], .of_eq (by kernel_rfl), iv⟩
  · have hh := room.h
    (with_reducible refine Ss.cons ?_; refine' S1.asL ?_ ?z2198hs); (case z2198hs => rfl); (with_reducible refine' Ev.meth ?_ ?z2199hm ?z2199hp); (case z2199hm => exact ⟨_, rfl⟩); (case z2199hp => intro _; rfl); (with_reducible refine' Ev.loc ?z2200h ?_); (case z2200h => nest_cls); (with_reducible refine' meth184 ?z2201hf ?z2201ht ?z2201o ?z2201hs ?_); (case z2201hf => lcg_sub); (case z2201ht => lcg_off); (case z2201o => with_reducible exact ObjOf.frz); (case z2201hs => kernel_rfl); (with_reducible refine' And.intro ?z2202k ?_); (case z2202k => with_reducible exact k_131 _ _ _ _); (with_reducible refine' Evs.cons ?_ ?z2203he); (case z2203he => rfl); (with_reducible refine' Ev.loc ?z2204h ?_); (case z2204h => nest_cls); (with_reducible refine Evs.nil ?_; refine Ca.app1 ?_)
    refine Cal.ca (Cal.mono (c_get w mg mb os la l nm h1 h2) fun d O' hd => ?_) room
    obtain ⟨hos, rfl⟩ := hd
    rw [hg]
    (with_reducible refine put_3 ?_)
    refine Exs.weak .refl hos ?_
    (with_reducible refine Ss.cons ?_; refine S1.ite ?_; refine' Te.cmp ?_ ?z2213hm); (case z2213hm => rfl); (with_reducible refine' Ev.loc ?z2214h ?_); (case z2214h => nest_cls); (with_reducible refine Ev.non ?_; refine Op2.isN ?_; refine Tr.bool ?_; refine' ite_f ?z2218h ?_); (case z2218h => exact Bool.false_ne_true); (with_reducible refine Ss.cons ?_; refine S1.ret ?_; refine' Ev.loc ?z2221h ?_); (case z2221h => nest_cls)
    exact ⟨_, .ret, .refl, rfl⟩
theorem c_sdefN (la : Addr) (l : List (Str × Str)) (nm v : Str) (hz : l.length ≤ 100000) (h1 : okName nm = true) (h2 : ∀ p ∈ l, (lowered p.1).length ≤ sizeLine) (h3 : noHit codeN nm = true) (h4 : noHit codeV v = true) (hg : getGo nm l = .none) :
    Cal (Γ1 w mg mb os) 3 (.ref 174) [me la, .str nm, .str v] [] [(la, .list (itemsD l))] fun d O' => OS [(la, .list (itemsD (l ++ [(nm, v)])))] O' ∧ d = .str v := by
  refine Cal.intro (params := ["self", "name", "value"]) (bds := [me la, .str nm, .str v]) [("self", some (me la)), ("name", some (.str nm)), ("value", some (.str v)), ("result", none)] [] rfl (by kernel_rfl) rfl ⟨rfl, rfl, rfl, rfl, rfl, rfl⟩
    (fun g s vs ks ok iv ik => ?_) (by decide +kernel) (by decide +kernel) (by decide +kernel) (by decide +kernel) (by kernel_rfl) (by kernel_rfl) fun A L room => ?_
  · obtain ⟨x, y, z, rfl, i, j, k⟩ := iv.three
    exact ⟨[x, y, z], .of_eq (by kernel_rfl), iv⟩
  · have hh := room.h
    have room1 : Room A 1 := room.less (by decide)
    (with_reducible refine Ss.cons ?_; refine' S1.asL ?_ ?z2223hs); (case z2223hs => rfl); (with_reducible refine' Ev.meth ?_ ?z2224hm ?z2224hp); (case z2224hm => exact ⟨_, rfl⟩); (case z2224hp => intro _; rfl); (with_reducible refine' Ev.loc ?z2225h ?_); (case z2225h => nest_cls); (with_reducible refine' meth184 ?z2226hf ?z2226ht ?z2226o ?z2226hs ?_); (case z2226hf => lcg_sub); (case z2226ht => lcg_off); (case z2226o => with_reducible exact ObjOf.frz); (case z2226hs => kernel_rfl); (with_reducible refine' And.intro ?z2227k ?_); (case z2227k => with_reducible exact k_131 _ _ _ _); (with_reducible refine' Evs.cons ?_ ?z2228he); (case z2228he => rfl); (with_reducible refine' Ev.loc ?z2229h ?_); (case z2229h => nest_cls); (with_reducible refine Evs.nil ?_; refine Ca.app1 ?_)
    refine Cal.ca (Cal.mono (c_get w mg mb os la l nm h1 h2) fun d O' hd => ?_) room
    obtain ⟨hos, rfl⟩ := hd
    rw [hg]
    (with_reducible refine put_3 ?_)
    refine Exs.weak .refl hos ?_
    (with_reducible refine Ss.cons ?_; refine S1.ite ?_; refine' Te.cmp ?_ ?z2238hm); (case z2238hm => rfl); (with_reducible refine' Ev.loc ?z2239h ?_); (case z2239h => nest_cls); (with_reducible refine Ev.non ?_; refine Op2.isN ?_; refine Tr.bool ?_; refine ite_t rfl ?_; refine Ss.cons ?_; refine' S1.exprAny ?_ ?z2245hi ?z2245hs); (case z2245hi => rfl); (case z2245hs => rfl); (with_reducible refine' Ev.meth ?_ ?z2246hm ?z2246hp); (case z2246hm => exact ⟨_, rfl⟩); (case z2246hp => intro _; rfl); (with_reducible refine' Ev.attr ?_ ?z2247he); (case z2247he => rfl); (with_reducible refine' Ev.loc ?z2248h ?_); (case z2248h => nest_cls); (with_reducible refine' attr184 ?z2249ha ?z2249o ?_); (case z2249ha => with_reducible exact a__headers _ _ _ _); (case z2249o => with_reducible exact ObjOf.frz); (with_reducible refine fat0 ?_; refine' hq ?z2251h ?_); (case z2251h => rfl)
    refine GetM.list (ds := itemsD l) (.own (.head _)) slot_list_append (by first | exact type_list_append | exact PySem.F.type_list_append) ?_
    (with_reducible refine' And.intro ?z2252k ?_); (case z2252k => with_reducible exact Kp.bui); (with_reducible refine' Evs.cons ?_ ?z2253he); (case z2253he => rfl); (with_reducible refine Ev.tup ?_; refine' Evs.cons ?_ ?z2255he); (case z2255he => rfl); (with_reducible refine' Ev.methK (ks := ["name"]) ?_ ?z2256a ?z2256b ?z2256c ?z2256d ?z2256e ?z2256f); (case z2256a => exact ⟨_, rfl⟩); (case z2256b => intro _; rfl); (case z2256c => intro _; rfl); (case z2256d => intro _; rfl); (case z2256e => intro _; rfl); (case z2256f => exact fun _ => ⟨_, _, rfl⟩); (with_reducible refine' Ev.loc ?z2257h ?_); (case z2257h => nest_cls); (with_reducible refine' meth184 ?z2258hf ?z2258ht ?z2258o ?z2258hs ?_); (case z2258hf => lcg_sub); (case z2258ht => lcg_off); (case z2258o => with_reducible exact ObjOf.frz); (case z2258hs => kernel_rfl); (with_reducible refine' And.intro ?z2259k ?_); (case z2259k => with_reducible exact k_83 _ _ _ _); (with_reducible refine' Evs.cons ?_ ?z2260he); (case z2260he => rfl); (with_reducible refine' Ev.loc ?z2261h ?_); (case z2261h => nest_cls); (with_reducible refine Evs.nil ?_; refine EvK.one ?_; refine Ev.bool ?_; refine' And.intro ?z2265k ?_); (case z2265k => kwd_rel); (with_reducible refine Ca.app1 ?_; refine Ca.zip1 ?_)
    refine conv_ca w mg mb os room1 (b := true) (by rw [if_pos rfl]; exact h3) ?_
    (with_reducible refine' Evs.cons ?_ ?z2268he); (case z2268he => rfl); (with_reducible refine' Ev.methK (ks := ["name"]) ?_ ?z2269a ?z2269b ?z2269c ?z2269d ?z2269e ?z2269f); (case z2269a => exact ⟨_, rfl⟩); (case z2269b => intro _; rfl); (case z2269c => intro _; rfl); (case z2269d => intro _; rfl); (case z2269e => intro _; rfl); (case z2269f => exact fun _ => ⟨_, _, rfl⟩); (with_reducible refine' Ev.loc ?z2270h ?_); (case z2270h => nest_cls); (with_reducible refine' meth184 ?z2271hf ?z2271ht ?z2271o ?z2271hs ?_); (case z2271hf => lcg_sub); (case z2271ht => lcg_off); (case z2271o => with_reducible exact ObjOf.frz); (case z2271hs => kernel_rfl); (with_reducible refine' And.intro ?z2272k ?_); (case z2272k => with_reducible exact k_83 _ _ _ _); (with_reducible refine' Evs.cons ?_ ?z2273he); (case z2273he => rfl); (with_reducible refine' Ev.loc ?z2274h ?_); (case z2274h => nest_cls); (with_reducible refine Evs.nil ?_; refine EvK.one ?_; refine Ev.bool ?_; refine' And.intro ?z2278k ?_); (case z2278k => kwd_rel); (with_reducible refine Ca.app1 ?_; refine Ca.zip1 ?_)
    refine conv_ca w mg mb os room1 (b := false) (by rw [if_neg (by decide)]; exact h4) ?_
    (with_reducible refine Evs.nil ?_; refine And.intro (Nat.le_of_ble_eq_true rfl) ?_; refine Evs.nil ?_; refine Ca.app1 ?_)
    refine Ca.append (ds := itemsD l) .here (by unfold itemsD; rw [List.length_map]; unfold sizeLine; exact om_21 hz) ?_
    (with_reducible refine Ss.cons ?_; refine S1.ret ?_; refine' Ev.loc ?z2287h ?_); (case z2287h => nest_cls)
    refine ⟨_, .ret, ?_, rfl⟩
    have e : itemsD l ++ [D.tup [.str nm, .str v]] = itemsD (l ++ [(nm, v)]) := by unfold itemsD; rw [List.map_append]; rfl
    rw [e]
    exact .refl
end
section
variable (w : World) (mg mb : Str → Option Value) (os : OsState)
theorem eqvAll_ints : ∀ l m : List Int, PyData.eqvAll (l.map .int) (m.map .int) = (l == m)
  | [], [] => by simp [PyData.eqvAll]
  | [], b :: m => by simp [PyData.eqvAll]
  | a :: l, [] => by simp [PyData.eqvAll]
  | a :: l, b :: m => by
    simp only [List.map_cons, PyData.eqvAll, PyData.eqv, eqvAll_ints l m]
    rfl
noncomputable abbrev normD (cs : List Int) (b : Int) : D := .tup [.tup (cs.map .int), .int b]
noncomputable abbrev normP (cs : List Int) (b : Int) : PyData := .tuple [.tuple (cs.map .int), .int b]
theorem toPy_norm (cs : List Int) (b : Int) : toPy (normD cs b) = some (normP cs b) := by
  simp [toPy, toPyL, toPyL_map D.int PyData.int (fun a => by simp [toPy]) cs]
theorem shaped_norm (cs : List Int) (b : Int) : SeqAt.shaped (normP cs b) = true := by
  have h1 := canLayAll_map PyData.int (fun a => by simp [PyData.canLay0]) cs
  have h2 := depthAll_map PyData.int (fun a => by simp [PyData.depth]) cs
  unfold SeqAt.shaped
  simp only [PyData.canLay0, PyData.canLayAll0, PyData.depth, PyData.depthAll, h1, Bool.true_and, Bool.and_self]
  exact decide_eq_true (by exact om_22 h2)
theorem eqv_norm (cs cs' : List Int) (b b' : Int) : PyData.eqv (normP cs b) (normP cs' b') = ((cs == cs') && (b == b')) := by
  simp only [PyData.eqv, PyData.eqvAll, eqvAll_ints, Bool.and_true]
theorem c_equal (raw raw' : Str) (n nt b n' nt' b' : Int) (cs cs' : List Int) (sm sm' : Bool) :
    Cal (Γ1 w mg mb os) 1 (.ref 240) [.inst 264 (wsFs raw n nt cs b sm), .inst 264 (wsFs raw' n' nt' cs' b' sm')] [] [] fun d O' => O' = [] ∧ d = .bool ((cs == cs') && (b == b')) := by
  refine Cal.intro (params := ["self", "other"]) (bds := [.inst 264 (wsFs raw n nt cs b sm), .inst 264 (wsFs raw' n' nt' cs' b' sm')]) [("self", some (.inst 264 (wsFs raw n nt cs b sm))), ("other", some (.inst 264 (wsFs raw' n' nt' cs' b' sm')))] [] rfl (by kernel_rfl) rfl ⟨rfl, rfl, rfl, rfl, rfl, rfl⟩
    (fun g s vs ks ok iv ik => ?_) (by decide +kernel) (by decide +kernel) (by decide +kernel) (by decide +kernel) (by kernel_rfl) (by kernel_rfl) fun A L room => ?_
  · obtain ⟨x, y, rfl, i, j⟩ := iv.two
    exact ⟨[x, y], .of_eq (by kernel_rfl), iv⟩
  · have hh := room.h
    have hu : A.units + 64 < cLine := by have := room.u; exact om_23 this
    (with_reducible refine Ss.cons ?_; refine S1.ret ?_; refine' Ev.cmp ?_ ?z2290hm); (case z2290hm => rfl); (with_reducible refine' Ev.attr ?_ ?z2291he); (case z2291he => rfl); (with_reducible refine' Ev.loc ?z2292h ?_); (case z2292h => nest_cls); (with_reducible refine' attr264 ?z2293ha ?z2293o ?_); (case z2293ha => first | with_reducible exact a_norm _ _ _ _ | with_reducible exact a_nt _ _ _ _ | with_reducible exact a_raw _ _ _ _ | with_reducible exact a_n _ _ _ _); (case z2293o => with_reducible exact ObjOf.frz); (with_reducible refine' fatS ?z2294h ?_); (case z2294h => kernel_rfl); (with_reducible refine' fatS ?z2295h ?_); (case z2295h => kernel_rfl); (with_reducible refine' fatS ?z2296h ?_); (case z2296h => kernel_rfl); (with_reducible refine fat0 ?_; refine' hq ?z2298h ?_); (case z2298h => rfl); (with_reducible refine' Ev.attr ?_ ?z2299he); (case z2299he => rfl); (with_reducible refine' Ev.loc ?z2300h ?_); (case z2300h => nest_cls); (with_reducible refine' attr264 ?z2301ha ?z2301o ?_); (case z2301ha => first | with_reducible exact a_norm _ _ _ _ | with_reducible exact a_nt _ _ _ _ | with_reducible exact a_raw _ _ _ _ | with_reducible exact a_n _ _ _ _); (case z2301o => with_reducible exact ObjOf.frz); (with_reducible refine' fatS ?z2302h ?_); (case z2302h => kernel_rfl); (with_reducible refine' fatS ?z2303h ?_); (case z2303h => kernel_rfl); (with_reducible refine' fatS ?z2304h ?_); (case z2304h => kernel_rfl); (with_reducible refine fat0 ?_; refine' hq ?z2306h ?_); (case z2306h => rfl)
    refine Op2.eqD (toPy_norm cs b) (toPy_norm cs' b') (shaped_norm _ _) (shaped_norm _ _) hu ?_
    rw [eqv_norm]
    exact ⟨_, .ret, rfl, rfl⟩
end
section
variable (w : World) (mg mb : Str → Option Value) (os : OsState)
theorem range_get {α : Type} : ∀ l : List α, (List.range l.length).filterMap (l[·]?) = l
  | [] => rfl
  | a :: l => by
    rw [List.length_cons, List.range_succ_eq_map, List.filterMap_cons, List.filterMap_map]
    show a :: (List.range l.length).filterMap (fun i => (a :: l)[i + 1]?) = _
    have : (List.range l.length).filterMap (fun i => (a :: l)[i + 1]?) = (List.range l.length).filterMap (l[·]?) := by
      congr 1
    rw [this, range_get l]
theorem pickD_all (ds : List D) : pickD ds none none none = ds := by
  unfold pickD
  have e : sliceBounds none none none ds.length = (((0 : Nat) : Int), ((ds.length : Nat) : Int), 1) := rfl
  rw [e, sliceRange_one]
  have : (List.range (ds.length - 0)).map (0 + ·) = List.range ds.length := by
    rw [Nat.sub_zero]; exact (List.map_congr_left (fun i _ => Nat.zero_add i)).trans (List.map_id _)
  rw [this]
  exact range_get ds
theorem c_items (la : Addr) (l : List (Str × Str)) (hz : l.length ≤ 100000) : Cal (Γ1 w mg mb os) 1 (.ref 148) [me la] [] [(la, .list (itemsD l))] fun d O' => O' = [(la, .list (itemsD l))] ∧ d = .lst (itemsD l) := by
  refine Cal.intro (params := ["self"]) (bds := [me la]) [("self", some (me la))] [] rfl (by kernel_rfl) rfl ⟨rfl, rfl, rfl, rfl, rfl, rfl⟩
    (fun g s vs ks ok iv ik => ?_) (by decide +kernel) (by decide +kernel) (by decide +kernel) (by decide +kernel) (by kernel_rfl) (by kernel_rfl) fun A L room => ?_
  · obtain ⟨x, rfl, i⟩ := iv.one
    exact ⟨[x], .of_eq (by kernel_rfl), iv⟩
  · have hh := room.h
    (with_reducible refine Ss.cons ?_; refine S1.ret ?_; refine Ev.sub ?_; refine' Ev.attr ?_ ?z2310he); (case z2310he => rfl); (with_reducible refine' Ev.loc ?z2311h ?_); (case z2311h => nest_cls); (with_reducible refine' attr184 ?z2312ha ?z2312o ?_); (case z2312ha => with_reducible exact a__headers _ _ _ _); (case z2312o => with_reducible exact ObjOf.frz); (with_reducible refine fat0 ?_; refine' hq ?z2314h ?_); (case z2314h => rfl); (with_reducible refine Ev.slice ?_; refine EvP.none ?_; refine EvP.none ?_; refine EvP.none ?_)
    refine Op2.sliceL (ds := itemsD l) (.own (.head _)) (by decide) (by unfold itemsD; rw [List.length_map]; unfold sizeLine; exact om_21 hz) ?_ (fun _ _ => ⟨_, rfl⟩)
    rw [pickD_all]
    exact ⟨_, .ret, rfl, rfl⟩
end
section
variable (w : World) (mg mb : Str → Option Value) (os : OsState)
noncomputable def bitC (bits k : Int) : Bool := Builtin.bitAnd (bits.fdiv (2 ^ k.toNat)) 1 != 0
noncomputable def cutL (bits : Int) : Nat → Int → List Int → Int → List Int
  | 0, _, l, x => l ++ [x]
  | m + 1, c, l, x => if bitC bits c = true then cutL bits m (c + 1) (l ++ [x]) 1 else cutL bits m (c + 1) l (x + 1)
theorem c_cut (cards bits : Int) (h0 : 1 ≤ cards) (h1 : cards ≤ 100) :
    Cal (Γ1 w mg mb os) 1 (.ref 275) [.int cards, .int bits] [] [] fun d O' => ∃ la, d = .v (.ref la) ∧ OS [(la, .list ((cutL bits (cards - 1).toNat 1 [] 1).map D.int))] O' := by
  refine Cal.intro (params := ["cards", "bits"]) (bds := [.int cards, .int bits]) [("cards", some (.int cards)), ("bits", some (.int bits)), ("piles", none), ("card", none)] [] rfl (by kernel_rfl) rfl ⟨rfl, rfl, rfl, rfl, rfl, rfl⟩
    (fun g s vs ks ok iv ik => ?_) (by decide +kernel) (by decide +kernel) (by decide +kernel) (by decide +kernel) (by kernel_rfl) (by kernel_rfl) fun A L room => ?_
  · obtain ⟨x, y, rfl, i, j⟩ := iv.two
    exact ⟨[x, y], .of_eq (by kernel_rfl), iv⟩
  · have hh := room.h
    (with_reducible refine Ss.cons ?_; refine' S1.asL ?_ ?z2320hs); (case z2320hs => rfl)
    refine Ev.lstO ?_
    (with_reducible refine' Evs.cons ?_ ?z2321he); (case z2321he => rfl); (with_reducible refine Ev.int ?_; refine Evs.nil ?_; refine And.intro (Nat.le_of_ble_eq_true rfl) ?_)
    intro la
    (with_reducible refine put_2 ?_; refine Ss.cons ?_)
    refine' S1.forIn (σ := Int × List Int × Int) (fun _ => [("cards", some (.int cards)), ("bits", some (.int bits)), ("piles", some (.v (.ref la))), ("card", none)]) (fun _ => []) (fun st => [(la, .list ((st.2.1 ++ [st.2.2]).map D.int))])
      (fun st ds => ds = rangeFrom st.1 1 (cards - st.1).toNat ∧ 1 ≤ st.1 ∧ st.1 ≤ cards ∧ (st.2.1.length : Int) ≤ st.1 ∧ cutL bits (cards - st.1).toNat st.1 st.2.1 st.2.2 = cutL bits (cards - 1).toNat 1 [] 1) hh ?_ ?_ ?_ ?hp ?hs
    case hp => rfl
    case hs => exact fun _ => rfl
    · (with_reducible refine' Ev.call ?_ ?z2329hp); (case z2329hp => intro _; rfl); (with_reducible refine' Ev.bui ?z2330h ?_ ?z2330hx); (case z2330h => with_reducible exact b_range _ _ _ _); (case z2330hx => kernel_rfl); (with_reducible refine' ⟨_, rfl, ?z2331k, ?_⟩); (case z2331k => with_reducible exact Kp.typ); (with_reducible refine' Evs.cons ?_ ?z2332he); (case z2332he => rfl); (with_reducible refine Ev.int ?_; refine' Evs.cons ?_ ?z2334he); (case z2334he => rfl); (with_reducible refine' Ev.loc ?z2335h ?_); (case z2335h => nest_cls); (with_reducible refine Evs.nil ?_; refine Ca.range2 ?_; refine' getI_range ?z2338h ?z2338k (fun _ => ?_)); (case z2338h => decide); (case z2338k => exact om_24 h0 h1)
      exact ⟨(1, [], 1), _, .refl, rfl, rfl, rfl, Int.le_refl _, h0, by decide, rfl⟩
    · rintro I ⟨c, l, x⟩ d ds ⟨e1, e2, e3, e4, e5⟩
      dsimp only at e1 e2 e3 e4 e5 ⊢
      have hk : (cards - c).toNat = (cards - (c + 1)).toNat + 1 := by
        rcases Nat.eq_zero_or_pos (cards - c).toNat with z | z
        · rw [z] at e1; cases e1
        · exact om_25 e3 z
      rw [hk] at e1 e5
      obtain ⟨rfl, rfl⟩ := List.cons.inj e1
      rw [List.map_append]
      have hz : (l.map D.int).length ≤ 200 := by rw [List.length_map]; exact om_26 h0 h1 e2 e3 e4
      have hsz : sizeLine = 16777216 := by decide
      by_cases hb : bitC bits c = true
      · rw [cutL, if_pos hb] at e5
        unfold bitC at hb
        (with_reducible refine As.loc ?_; refine put_3 ?_; refine Ss.cons ?_; refine S1.ite ?_; refine' Te.val ?_ ?z2346he); (case z2346he => rfl); (with_reducible refine Ev.bin ?_; refine Ev.bin ?_; refine' Ev.loc ?z2349h ?_); (case z2349h => nest_cls); (with_reducible refine' Ev.loc ?z2350h ?_); (case z2350h => nest_cls); (with_reducible refine' Op2.shrI ?z2351h ?_); (case z2351h => exact om_27 e2); (with_reducible refine Ev.int ?_; refine Op2.andI ?_; refine Tr.int ?_; refine ite_t (by with_reducible assumption) ?_; refine Ss.cons ?_; refine' S1.exprAny ?_ ?z2357hi ?z2357hs); (case z2357hi => rfl); (case z2357hs => rfl); (with_reducible refine' Ev.meth ?_ ?z2358hm ?z2358hp); (case z2358hm => exact ⟨_, rfl⟩); (case z2358hp => intro _; rfl); (with_reducible refine' Ev.loc ?z2359h ?_); (case z2359h => nest_cls)
        refine GetM.list (ds := l.map D.int ++ [x].map D.int) (.own (.tail _ (.head _))) slot_list_append (by first | exact type_list_append | exact PySem.F.type_list_append) ?_
        (with_reducible refine' And.intro ?z2360k ?_); (case z2360k => with_reducible exact Kp.bui); (with_reducible refine' Evs.cons ?_ ?z2361he); (case z2361he => rfl); (with_reducible refine Ev.int ?_; refine Evs.nil ?_; refine Ca.app1 ?_)
        refine Ca.append (ds := l.map D.int ++ [x].map D.int) (.there .here) (by rw [List.length_append, hsz]; simp only [List.length_map, List.length_cons, List.length_nil] at hz ⊢; exact om_28 hz) ?_
        (with_reducible refine Ss.nil ?_; refine Ss.nil ?_)
        refine ⟨(c + 1, l ++ [x], 1), .keep (.keep (.keep (.drop .nil))), rfl, ?_, rfl, by show 1 ≤ c + 1; exact om_29 e2, by show c + 1 ≤ cards; exact om_30 e3 hk, by show (((l ++ [x]).length : Nat) : Int) ≤ c + 1; rw [List.length_append]; simp only [List.length_cons, List.length_nil]; exact om_31 e4, e5⟩
        dsimp only
        rw [List.map_append, List.map_append]
        exact .refl
      · rw [cutL, if_neg hb] at e5
        unfold bitC at hb
        (with_reducible refine As.loc ?_; refine put_3 ?_; refine Ss.cons ?_; refine S1.ite ?_; refine' Te.val ?_ ?z2374he); (case z2374he => rfl); (with_reducible refine Ev.bin ?_; refine Ev.bin ?_; refine' Ev.loc ?z2377h ?_); (case z2377h => nest_cls); (with_reducible refine' Ev.loc ?z2378h ?_); (case z2378h => nest_cls); (with_reducible refine' Op2.shrI ?z2379h ?_); (case z2379h => exact om_27 e2); (with_reducible refine Ev.int ?_; refine Op2.andI ?_; refine Tr.int ?_; refine ite_f (by with_reducible assumption) ?_; refine Ss.cons ?_; refine' S1.exprAny ?_ ?z2385hi ?z2385hs); (case z2385hi => rfl); (case z2385hs => rfl); (with_reducible refine' Ev.meth ?_ ?z2386hm ?z2386hp); (case z2386hm => exact ⟨_, rfl⟩); (case z2386hp => intro _; rfl); (with_reducible refine' Ev.loc ?z2387h ?_); (case z2387h => nest_cls)
        refine GetM.list (ds := l.map D.int ++ [x].map D.int) (.own (.tail _ (.head _))) slot_list_append (by first | exact type_list_append | exact PySem.F.type_list_append) ?_
        (with_reducible refine' And.intro ?z2388k ?_); (case z2388k => with_reducible exact Kp.bui); (with_reducible refine' Evs.cons ?_ ?z2389he); (case z2389he => rfl); (with_reducible refine Ev.bin ?_; refine' Ev.meth ?_ ?z2391hm ?z2391hp); (case z2391hm => exact ⟨_, rfl⟩); (case z2391hp => intro _; rfl); (with_reducible refine' Ev.loc ?z2392h ?_); (case z2392h => nest_cls)
        refine GetM.list (ds := l.map D.int ++ [x].map D.int) (.own (.tail _ (.head _))) PySem.F.slot_list_pop PySem.F.type_list_pop ?_
        (with_reducible refine' And.intro ?z2393k ?_); (case z2393k => with_reducible exact Kp.bui); (with_reducible refine Evs.nil ?_; refine Ca.app1 ?_)
        refine Ca.pop (ds := l.map D.int) (d := .int x) (.there .here) (by rw [hsz]; exact om_32 hz) ?_
        (with_reducible refine Ev.int ?_; refine Op2.addI ?_; refine Evs.nil ?_; refine Ca.app1 ?_)
        refine Ca.append (ds := l.map D.int) (.there .here) (by rw [hsz]; exact om_33 hz) ?_
        (with_reducible refine Ss.nil ?_; refine Ss.nil ?_)
        refine ⟨(c + 1, l, x + 1), .keep (.keep (.keep (.drop .nil))), rfl, ?_, rfl, by show 1 ≤ c + 1; exact om_29 e2, by show c + 1 ≤ cards; exact om_30 e3 hk, by show ((l.length : Nat) : Int) ≤ c + 1; exact om_34 e4, e5⟩
        dsimp only
        rw [List.map_append]
        exact .refl
    · rintro ⟨c, l, x⟩ ⟨e1, e2, e3, e4, e5⟩
      dsimp only at e1 e2 e3 e4 e5 ⊢
      have hk : (cards - c).toNat = 0 := by
        rcases Nat.eq_zero_or_pos (cards - c).toNat with z | z
        · exact z
        · obtain ⟨m, hm⟩ : ∃ m, (cards - c).toNat = m + 1 := ⟨(cards - c).toNat - 1, by exact om_35 z⟩
          rw [hm] at e1; cases e1
      rw [hk] at e5
      have e5 : l ++ [x] = _ := e5
      rw [e5]
      (with_reducible refine Ss.cons ?_; refine S1.ret ?_; refine' Ev.loc ?z2404h ?_); (case z2404h => nest_cls)
      exact ⟨_, .ret, la, rfl, .refl⟩
end
section
variable (w : World) (mg mb : Str → Option Value) (os : OsState)
theorem LstOf.more {O : Own} {d : D} {ds : List D} {p : Addr × Cont} (h : LstOf O d ds) : LstOf (p :: O) d ds := by
  cases h with
  | frz => exact .frz
  | own m => exact .own (.tail _ m)
noncomputable def leadP (bits : Int) : List Int → Int → Str → Str
  | [], _, l => l
  | p :: r, k, l => leadP bits r (k + 1) (if bitC bits k = true then l ++ (Txt.mul " " p ++ "\t") else (Txt.mul " " p ++ "\t") ++ l)
theorem c_lead (O : Own) (pd : D) (ps : List Int) (bits : Int) (hL : LstOf O pd (ps.map D.int)) (hn : ps.length ≤ 100) (hp : ∀ p ∈ ps, 0 ≤ p ∧ p ≤ 400) :
    Cal (Γ1 w mg mb os) 1 (.ref 282) [pd, .int bits] [] O fun d O' => OS O O' ∧ d = .str (leadP bits ps 0 "") := by
  refine Cal.intro (params := ["piles", "bits"]) (bds := [pd, .int bits]) [("piles", some pd), ("bits", some (.int bits)), ("lead", none), ("place", none), ("run", none)] [] rfl (by kernel_rfl) rfl ⟨rfl, rfl, rfl, rfl, rfl, rfl⟩
    (fun g s vs ks ok iv ik => ?_) (by decide +kernel) (by decide +kernel) (by decide +kernel) (by decide +kernel) (by kernel_rfl) (by kernel_rfl) fun A L room => ?_
  · obtain ⟨x, y, rfl, i, j⟩ := iv.two
    exact ⟨[x, y], .of_eq (by kernel_rfl), iv⟩
  · have hh := room.h
    have hlm : (ps.map D.int).length = ps.length := List.length_map ..
    (with_reducible refine Ss.cons ?_; refine' S1.asL ?_ ?z2406hs); (case z2406hs => rfl); (with_reducible refine Ev.str ?_; refine put_2 ?_; refine Ss.cons ?_)
    refine' S1.forIn (σ := Int × List Int × Str) (fun st => [("piles", some pd), ("bits", some (.int bits)), ("lead", some (.str st.2.2)), ("place", none), ("run", none)]) (fun _ => []) (fun _ => O)
      (fun st ds => ds = rangeFrom st.1 1 st.2.1.length ∧ 0 ≤ st.1 ∧ st.2.1 = ps.drop st.1.toNat ∧ (st.2.2.length : Int) ≤ 500 * st.1 ∧ leadP bits st.2.1 st.1 st.2.2 = leadP bits ps 0 "") hh ?_ ?_ ?_ ?hp ?hs
    case hp => rfl
    case hs => exact fun _ => rfl
    · (with_reducible refine' Ev.call ?_ ?z2412hp); (case z2412hp => intro _; rfl); (with_reducible refine' Ev.bui ?z2413h ?_ ?z2413hx); (case z2413h => with_reducible exact b_range _ _ _ _); (case z2413hx => kernel_rfl); (with_reducible refine' ⟨_, rfl, ?z2414k, ?_⟩); (case z2414k => with_reducible exact Kp.typ); (with_reducible refine' Evs.cons ?_ ?z2415he); (case z2415he => rfl); (with_reducible refine' Ev.call ?_ ?z2416hp); (case z2416hp => intro _; rfl); (with_reducible refine' Ev.bui ?z2417h ?_ ?z2417hx); (case z2417h => with_reducible exact b_len _ _ _ _); (case z2417hx => kernel_rfl); (with_reducible refine' ⟨_, rfl, ?z2418k, ?_⟩); (case z2418k => with_reducible exact Kp.bui); (with_reducible refine' Evs.cons ?_ ?z2419he); (case z2419he => rfl); (with_reducible refine' Ev.loc ?z2420h ?_); (case z2420h => nest_cls); (with_reducible refine Evs.nil ?_)
      refine Ca.len hL (by rw [hlm]; exact om_36 hn hlm) ?_
      have hb2 : (((ps.map D.int).length : Nat) : Int).natAbs < 4294967296 := by rw [hlm]; exact om_37 hn hlm
      (with_reducible refine Evs.nil ?_; refine Ca.range1 ?_; refine' getI_range ?z2424h ?z2424k (fun _ => ?_)); (case z2424h => decide); (case z2424k => with_reducible assumption)
      refine ⟨(0, ps, ""), _, .refl, rfl, rfl, ?_, Int.le_refl _, rfl, by show (0 : Int) ≤ 500 * 0; exact om_38, rfl⟩
      dsimp only
      rw [hlm, Int.sub_zero, Int.toNat_natCast]
    · rintro I ⟨k, r, l⟩ d ds ⟨e1, e2, e3, e4, e5⟩
      dsimp only at e1 e2 e3 e4 e5 ⊢
      cases r with
      | nil => cases e1
      | cons p r =>
        obtain ⟨rfl, rfl⟩ := List.cons.inj e1
        have hk : k.toNat < ps.length := by
          rcases Nat.lt_or_ge k.toNat ps.length with z | z
          · exact z
          · rw [List.drop_eq_nil_of_le z] at e3; cases e3
        rw [List.drop_eq_getElem_cons hk] at e3
        obtain ⟨ep, er⟩ := List.cons.inj e3
        obtain ⟨p0, p1⟩ := hp p (ep ▸ List.getElem_mem hk)
        have hget : (ps.map D.int)[k.toNat]? = some (.int p) := by rw [List.getElem?_map, List.getElem?_eq_getElem hk, ← ep]; rfl
        have hl1 : (Txt.mul " " p).length ≤ 1 * 400 := len_mul_leN (by decide) p1
        have hl2 : (Txt.mul " " p ++ "\t").length ≤ 401 := by rw [Str.len_app]; show _ + 1 ≤ 401; exact om_39 hk hl1
        have hsz : sizeLine = 16777216 := by decide
        have er' : r = ps.drop (k + 1).toNat := by rw [er]; congr 1; exact om_40 e2 hk
        (with_reducible refine As.loc ?_; refine put_3 ?_; refine Ss.cons ?_; refine' S1.asL ?_ ?z2431hs); (case z2431hs => rfl); (with_reducible refine Ev.bin ?_; refine Ev.bin ?_; refine Ev.str ?_; refine Ev.sub ?_; refine' Ev.loc ?z2436h ?_); (case z2436h => nest_cls); (with_reducible refine' Ev.loc ?z2437h ?_); (case z2437h => nest_cls)
        refine Op2.itemL hL.more (by exact om_41 e2) (by exact om_42 hn hlm hk) hget ?_ (by intros; rfl)
        refine Op2.mulS (mulOk_of 1 400 (by decide) p1 (by exact om_43 hk ep p0 p1) (by decide) (by decide)) ?_
        (with_reducible refine Ev.str ?_)
        refine Op2.addS (by rw [hsz]; show _ + 1 ≤ _; exact om_44 hk hl1) ?_
        (with_reducible refine put_4 ?_; refine Ss.cons ?_; refine' S1.asL ?_ ?z2445hs); (case z2445hs => rfl); (with_reducible refine Ev.ife ?_; refine' Te.val ?_ ?z2447he); (case z2447he => rfl); (with_reducible refine Ev.bin ?_; refine Ev.bin ?_; refine' Ev.loc ?z2450h ?_); (case z2450h => nest_cls); (with_reducible refine' Ev.loc ?z2451h ?_); (case z2451h => nest_cls); (with_reducible refine' Op2.shrI ?z2452h ?_); (case z2452h => with_reducible assumption); (with_reducible refine Ev.int ?_; refine Op2.andI ?_; refine Tr.int ?_)
        by_cases hb : bitC bits k = true
        · rw [leadP, if_pos hb] at e5
          unfold bitC at hb
          (with_reducible refine ite_t (by with_reducible assumption) ?_; refine Ev.bin ?_; refine' Ev.loc ?z2458h ?_); (case z2458h => nest_cls); (with_reducible refine' Ev.loc ?z2459h ?_); (case z2459h => nest_cls)
          refine Op2.addS (by rw [hsz]; exact om_45 hn hlm e2 e4 hk hl2) ?_
          (with_reducible refine put_2 ?_; refine Ss.nil ?_)
          refine ⟨(k + 1, r, l ++ (Txt.mul " " p ++ "\t")), .keep (.keep (.keep (.drop (.drop .nil)))), rfl, .refl, rfl, by show 0 ≤ k + 1; exact om_46 e2 hk, er', by show (((l ++ (Txt.mul " " p ++ "\t")).length : Nat) : Int) ≤ 500 * (k + 1); rw [Str.len_app]; exact om_47 e4 hk hl2, e5⟩
        · rw [leadP, if_neg hb] at e5
          unfold bitC at hb
          (with_reducible refine ite_f (by with_reducible assumption) ?_; refine Ev.bin ?_; refine' Ev.loc ?z2466h ?_); (case z2466h => nest_cls); (with_reducible refine' Ev.loc ?z2467h ?_); (case z2467h => nest_cls)
          refine Op2.addS (by rw [hsz]; exact om_48 hn hlm e2 e4 hk hl2) ?_
          (with_reducible refine put_2 ?_; refine Ss.nil ?_)
          refine ⟨(k + 1, r, (Txt.mul " " p ++ "\t") ++ l), .keep (.keep (.keep (.drop (.drop .nil)))), rfl, .refl, rfl, by show 0 ≤ k + 1; exact om_46 e2 hk, er', by show ((((Txt.mul " " p ++ "\t") ++ l).length : Nat) : Int) ≤ 500 * (k + 1); rw [Str.len_app]; exact om_49 e4 hk hl2, e5⟩
    · rintro ⟨k, r, l⟩ ⟨e1, e2, e3, e4, e5⟩
      dsimp only at e1 e2 e3 e4 e5 ⊢
      cases r with
      | cons p r => cases e1
      | nil =>
        have e5 : l = _ := e5
        rw [e5]
        (with_reducible refine Ss.cons ?_; refine S1.ret ?_; refine' Ev.loc ?z2474h ?_); (case z2474h => nest_cls)
        exact ⟨_, .ret, .refl, rfl⟩
end
section
variable (w : World) (mg mb : Str → Option Value) (os : OsState)
noncomputable def pEs (cs : List Int) : D → List D
  | .int k => rangeFrom 0 1 (cs.getD k.toNat 0).toNat
  | _ => []
noncomputable def pF : D → D → Option D
  | .int k, _ => some (.int k)
  | _, _ => none
noncomputable def pilesD (cs : List Int) : List D := (rangeFrom 0 1 cs.length).flatMap fun d => (pEs cs d).filterMap (pF d)
theorem mem_rangeFrom1 {d : D} : ∀ {n : Nat} {a : Int}, d ∈ rangeFrom a 1 n → ∃ i : Nat, i < n ∧ d = .int (a + i)
  | 0, a, h => nomatch h
  | n + 1, a, h => by
    rcases List.mem_cons.mp h with rfl | h
    · exact ⟨0, Nat.succ_pos _, by simp⟩
    · obtain ⟨i, hi, rfl⟩ := mem_rangeFrom1 (n := n) h
      exact ⟨i + 1, by exact om_50 hi, by congr 1; exact om_51⟩
theorem c_piles (raw : Str) (n nt b : Int) (cs : List Int) (sm : Bool) (hz : cs.length ≤ 1000) (hc : ∀ c ∈ cs, 0 ≤ c ∧ c ≤ 1000) (hl : (pilesD cs).length ≤ 1000000) :
    Cal (Γ1 w mg mb os) 1 (.ref 287) [.inst 264 (wsFs raw n nt cs b sm)] [] [] fun d O' => O' = [] ∧ d = .lst (pilesD cs) := by
  refine Cal.intro (params := ["guy"]) (bds := [.inst 264 (wsFs raw n nt cs b sm)]) [("guy", some (.inst 264 (wsFs raw n nt cs b sm)))] [("count", none)] rfl (by kernel_rfl) rfl ⟨rfl, rfl, rfl, rfl, rfl, rfl⟩
    (fun g s vs ks ok iv ik => ?_) (by decide +kernel) (by decide +kernel) (by decide +kernel) (by decide +kernel) (by kernel_rfl) (by kernel_rfl) fun A L room => ?_
  · obtain ⟨x, rfl, i⟩ := iv.one
    exact ⟨[x], .of_eq (by kernel_rfl), iv⟩
  · have hh := room.h
    have hlm : (cs.map D.int).length = cs.length := List.length_map ..
    (with_reducible refine Ss.cons ?_; refine' S1.asC ?_ ?z2476hl ?z2476hf ?z2476hs); (case z2476hl => kernel_rfl); (case z2476hf => rfl); (case z2476hs => rfl); (with_reducible refine Ev.sub ?_; refine' Ev.attr ?_ ?z2478he); (case z2478he => rfl); (with_reducible refine' Ev.loc ?z2479h ?_); (case z2479h => nest_cls); (with_reducible refine' attr264 ?z2480ha ?z2480o ?_); (case z2480ha => first | with_reducible exact a_norm _ _ _ _ | with_reducible exact a_nt _ _ _ _ | with_reducible exact a_raw _ _ _ _ | with_reducible exact a_n _ _ _ _); (case z2480o => with_reducible exact ObjOf.frz); (with_reducible refine' fatS ?z2481h ?_); (case z2481h => kernel_rfl); (with_reducible refine' fatS ?z2482h ?_); (case z2482h => kernel_rfl); (with_reducible refine' fatS ?z2483h ?_); (case z2483h => kernel_rfl); (with_reducible refine fat0 ?_; refine' hq ?z2485h ?_); (case z2485h => rfl); (with_reducible refine Ev.int ?_; refine' Op2.itemT ?z2487a ?z2487b ?z2487c ?z2487d ?_ ?z2487hs); (case z2487a => decide); (case z2487b => decide); (case z2487c => first | with_reducible assumption | rfl); (case z2487d => first | with_reducible assumption | rfl); (case z2487hs => intros; rfl); (with_reducible refine put0 ?_; refine Ss.cons ?_; refine S1.ret ?_)
    refine' Ev.compM2 [(".0", none), ("size", none), ("again", none)] [("count", some (.tup (cs.map .int)))] (pEs cs) pF hh ?hp ?hp2 ?c1 ?c2 ?c3 ?c4 ?c5 ?c6 ?c7 ?c8 ?_
    case hp => rfl
    case hp2 => rfl
    case c1 => rfl
    case c2 => rfl
    case c3 => decide +kernel
    case c4 => decide +kernel
    case c5 => kernel_rfl
    case c6 => exact .cons (.head _) (.inl (by kernel_rfl)) (by kernel_rfl) (fun q h => nomatch h) .nil
    case c7 => exact fun _ => rfl
    case c8 => exact fun _ _ => rfl
    have hb1 : (cs.map D.int).length < 2 ^ 62 := by exact om_52 hz hlm
    have hb2 : (((cs.map D.int).length : Nat) : Int).natAbs < 4294967296 := by exact om_53 hz hlm
    (with_reducible refine' Ev.call ?_ ?z2491hp); (case z2491hp => intro _; rfl); (with_reducible refine' Ev.bui ?z2492h ?_ ?z2492hx); (case z2492h => with_reducible exact b_range _ _ _ _); (case z2492hx => kernel_rfl); (with_reducible refine' ⟨_, rfl, ?z2493k, ?_⟩); (case z2493k => with_reducible exact Kp.typ); (with_reducible refine' Evs.cons ?_ ?z2494he); (case z2494he => rfl); (with_reducible refine' Ev.call ?_ ?z2495hp); (case z2495hp => intro _; rfl); (with_reducible refine' Ev.bui ?z2496h ?_ ?z2496hx); (case z2496h => with_reducible exact b_len _ _ _ _); (case z2496hx => kernel_rfl); (with_reducible refine' ⟨_, rfl, ?z2497k, ?_⟩); (case z2497k => with_reducible exact Kp.bui); (with_reducible refine' Evs.cons ?_ ?z2498he); (case z2498he => rfl); (with_reducible refine' Ev.cel ?z2499h ?_); (case z2499h => nest_cls); (with_reducible refine Evs.nil ?_; refine' Ca.lenT ?z2501h ?_); (case z2501h => with_reducible assumption); (with_reducible refine Evs.nil ?_; refine Ca.range1 ?_; refine' getI_range ?z2504h ?z2504k (fun _ => ?_)); (case z2504h => decide); (case z2504k => with_reducible assumption)
    have e0 : rangeFrom 0 1 (((cs.map D.int).length : Int) - 0).toNat = rangeFrom 0 1 cs.length := by rw [hlm, Int.sub_zero, Int.toNat_natCast]
    refine ⟨_, _, rfl, fun L dd hd' => ?_, ?_, ?_⟩
    · rw [e0] at hd'
      obtain ⟨k, hk, rfl⟩ := mem_rangeFrom1 hd'
      rw [Int.zero_add]
      intro O
      have hget : (cs.map D.int)[(k : Int).toNat]? = some (.int (cs.getD k 0)) := by
        rw [Int.toNat_natCast, List.getElem?_map, List.getElem?_eq_getElem hk, List.getD_eq_getElem?_getD, List.getElem?_eq_getElem hk]; rfl
      have hck := hc _ (List.getElem_mem hk)
      have hgd : cs.getD k 0 = cs[k] := by rw [List.getD_eq_getElem?_getD, List.getElem?_eq_getElem hk]; rfl
      have hb3 : (cs.getD k 0).natAbs < 4294967296 := by rw [hgd]; exact om_54 hk hck hgd
      have hk1 : (k : Int) < (cs.map D.int).length := by exact om_55 hlm hk
      (with_reducible refine As.loc ?_; refine put_1 ?_; refine' And.intro ?z2508k ?_); (case z2508k => kwd_rel); (with_reducible refine' And.intro ?z2509k ?_); (case z2509k => kwd_rel)
      refine ⟨.keep (.drop (.keep .nil)), ?_⟩
      (with_reducible refine' Ev.call ?_ ?z2510hp); (case z2510hp => intro _; rfl); (with_reducible refine' Ev.bui ?z2511h ?_ ?z2511hx); (case z2511h => with_reducible exact b_range _ _ _ _); (case z2511hx => kernel_rfl); (with_reducible refine' ⟨_, rfl, ?z2512k, ?_⟩); (case z2512k => with_reducible exact Kp.typ); (with_reducible refine' Evs.cons ?_ ?z2513he); (case z2513he => rfl); (with_reducible refine Ev.sub ?_; refine' Ev.cel ?z2515h ?_); (case z2515h => nest_cls); (with_reducible refine' Ev.loc ?z2516h ?_); (case z2516h => nest_cls)
      have hsq : seqIndex? (k : Int) (cs.map D.int).length = some (k : Int).toNat := by
        unfold seqIndex?
        have h1 : ¬ (k : Int) < 0 := by exact om_56 hk
        have h2 : k < cs.length := hk
        simp [h1, hlm, h2]
      refine Op2.itemT (by exact om_57 hk) (by exact om_58 hz hlm hk) hsq hget ?_ (by intros; rfl)
      (with_reducible refine Evs.nil ?_; refine Ca.range1 ?_; refine' getI_range ?z2519h ?z2519k (fun _ => ?_)); (case z2519h => decide); (case z2519k => with_reducible assumption)
      refine ⟨by rw [Int.sub_zero]; show _ = (_, Cont.iter (rangeFrom 0 1 (cs.getD (k : Int).toNat 0).toNat)) :: _; rw [Int.toNat_natCast], fun e he => ?_⟩
      have he' : e ∈ rangeFrom 0 1 (cs.getD k 0).toNat := by simpa [pEs] using he
      obtain ⟨j, hj, rfl⟩ := mem_rangeFrom1 he'
      intro O
      have ef : pF (.int (k : Int)) (.int (0 + (j : Int))) = some (.int (k : Int)) := rfl
      rw [ef]
      (with_reducible refine As.loc ?_; refine put_2 ?_; refine Ifs.nil ?_; refine ite_t rfl ?_; refine' Ev.loc ?z2526h ?_); (case z2526h => nest_cls)
      exact ⟨⟨rfl, rfl⟩, rfl, .keep (.keep (.drop .nil))⟩
    · rw [e0]; exact Nat.le_trans hl (by decide)
    · rw [e0]
      exact ⟨_, .ret, rfl, rfl⟩
end
section
variable (w : World) (mg mb : Str → Option Value) (os : OsState)
noncomputable abbrev fsN (la : Addr) : List (Str × D) := [] ++ [(("_headers" : Str), D.v (.ref la))]
theorem c_hinit (x dx : Addr) :
    Cal (Γ1 w mg mb os) 2 (.ref 76) [.v (.ref x)] [] [(x, .obj 184 dx), (dx, .dict [])] fun d O' => d = .none ∧ ∃ la, OS [(x, .obj 184 dx), (dx, .dict [("_headers", .v (.ref la))]), (la, .list [])] O' := by
  refine Cal.intro (params := ["self", "headers"]) (bds := [.v (.ref x), .none]) [("self", some (.v (.ref x))), ("headers", some .none), ("k", none), ("v", none)] [] rfl (by kernel_rfl) rfl ⟨rfl, rfl, rfl, rfl, rfl, rfl⟩
    (fun g s vs ks ok iv ik => ?_) (by decide +kernel) (by decide +kernel) (by decide +kernel) (by decide +kernel) (by kernel_rfl) (by kernel_rfl) fun A L room => ?_
  · obtain ⟨x, rfl, i⟩ := iv.one
    exact ⟨[x, .none], binds_K (K := (Γ1 w mg mb os).K) ok.kin rfl rfl rfl rfl rfl, .cons i (.cons .none .nil)⟩
  · have hh := room.h
    (with_reducible refine Ss.cons ?_; refine' S1.asL ?_ ?z2528hs); (case z2528hs => rfl); (with_reducible refine Ev.ife ?_; refine' Te.cmp ?_ ?z2530hm); (case z2530hm => rfl); (with_reducible refine' Ev.loc ?z2531h ?_); (case z2531h => nest_cls); (with_reducible refine Ev.non ?_; refine Op2.isNotN ?_; refine Tr.bool ?_; refine' ite_f ?z2535h ?_); (case z2535h => exact Bool.false_ne_true)
    refine Ev.lstO ?_
    refine Evs.nil ⟨by decide, fun la => ?_⟩
    (with_reducible refine put_1 ?_; refine Ss.cons ?_; refine S1.ite ?_; refine' Te.cmp ?_ ?z2540hm); (case z2540hm => rfl); (with_reducible refine' Ev.call ?_ ?z2541hp); (case z2541hp => intro _; rfl); (with_reducible refine' Ev.bui ?z2542h ?_ ?z2542hx); (case z2542h => with_reducible exact b_type _ _ _ _); (case z2542hx => kernel_rfl); (with_reducible refine' ⟨_, rfl, ?z2543k, ?_⟩); (case z2543k => with_reducible exact Kp.typ); (with_reducible refine' Evs.cons ?_ ?z2544he); (case z2544he => rfl); (with_reducible refine' Ev.loc ?z2545h ?_); (case z2545h => nest_cls); (with_reducible refine Evs.nil ?_; refine' Ca.typeL ?z2547l ?_); (case z2547l => first | with_reducible exact LstOf.frz | ((with_reducible refine' LstOf.own ?z2547hm); (case z2547hm => nest_cls))); (with_reducible refine' Ev.bui ?z2548h ?_ ?z2548hx); (case z2548h => with_reducible exact b_list _ _ _ _); (case z2548hx => kernel_rfl); (with_reducible refine' Op2.isNotV ?z2549h ?_); (case z2549h => rfl); (with_reducible refine Tr.bool ?_; refine' ite_f ?z2551h ?_); (case z2551h => exact Bool.false_ne_true); (with_reducible refine Ss.nil ?_; refine Ss.cons ?_; refine' S1.as1 ?_ ?z2554hs ?z2554hw ?z2554he); (case z2554hs => rfl); (case z2554hw => rfl); (case z2554he => rfl); (with_reducible refine' Ev.loc ?z2555h ?_); (case z2555h => nest_cls); (with_reducible refine As.attr ?_; refine' Ev.loc ?z2557h ?_); (case z2557h => nest_cls); (with_reducible refine' set184 ?z2558ht ?z2558m ?z2558u ?z2558hf ?z2558hz ?_); (case z2558ht => with_reducible exact t__headers _ _ _ _); (case z2558m => nest_cls); (case z2558u => nest_cls); (case z2558hf => kernel_rfl); (case z2558hz => exact Nat.le_of_ble_eq_true rfl); (with_reducible refine oupS ?_; refine oupS ?_; refine oup0 ?_; refine Ss.cons ?_; refine S1.ite ?_; refine' Te.val ?_ ?z2564he); (case z2564he => rfl); (with_reducible refine Ev.bool ?_; refine Tr.bool ?_; refine ite_t rfl ?_; refine Ss.cons ?_)
    refine' S1.forLit (σ := Unit) (fun _ => [("self", some (.v (.ref x))), ("headers", some (.v (.ref la))), ("k", none), ("v", none)]) (fun _ => []) (fun _ => [(la, .list []), (x, .obj 184 dx), (dx, .dict (fsN la))])
      (fun _ ds => ds = []) la [] (fun _ => .head _) hh ?_ ?_ ?_ ?hp ?hs
    case hp => rfl
    case hs => exact fun _ => rfl
    · (with_reducible refine' Ev.loc ?z2569h ?_); (case z2569h => nest_cls)
      refine GetI.own (ds := []) (.head _) fun I => ?_
      exact ⟨(), .refl, rfl, rfl, rfl⟩
    · rintro I - i d ds e
      cases e
    · rintro - -
      (with_reducible refine Ss.nil ?_; refine Ss.nil ?_)
      exact ⟨_, .next, rfl, la, [(la, .list []), (x, .obj 184 dx), (dx, .dict (fsN la))], List.perm_append_comm (l₁ := [(x, Cont.obj 184 dx), (dx, Cont.dict (fsN la))]) (l₂ := [(la, Cont.list [])]), List.Sublist.refl _⟩
end
section
variable (w : World) (mg mb : Str → Option Value) (os : OsState)
theorem joinOne (x t : Str) : Txt.join x [t] = t := by
  show Builtin.Str.glued x [t] = t
  unfold Builtin.Str.glued
  simp
theorem joinOkOne {x t : Str} (hx : x.length ≤ 1000) (h : t.length ≤ 1000000) : JoinOk x [t] = true := joinOk_of (by simp; exact om_59 hx h)
theorem c_addh (la : Addr) (l : List (Str × Str)) (nm v : Str) (hz : l.length ≤ 100000) (hv : v.length ≤ 100000) (h3 : noHit codeN nm = true) (h4 : noHit codeV v = true) :
    Cal (Γ1 w mg mb os) 2 (.ref 181) [me la, .str nm, .str v] [] [(la, .list (itemsD l))] fun d O' => OS [(la, .list (itemsD (l ++ [(nm, v)])))] O' ∧ d = .none := by
  refine CalP.cal (CalP.intro (params := ["self", "_name", "_value", "_params"]) (fun bds O₁ => ∃ a, bds = [me la, .str nm, .str v, .v (.ref a)] ∧ O₁ = [(a, .dict []), (la, .list (itemsD l))] ∧ (a == sysModules) = false) rfl (by kernel_rfl) rfl ⟨rfl, rfl, rfl, rfl, rfl, rfl⟩
    (fun A g s vs ks ok iv ik => ?_) (by decide +kernel) (by decide +kernel) (by decide +kernel) (by decide +kernel) fun A L bds O₁ ρ κ hA room ⟨a, e1, e2, e3⟩ hρ hκ => ?_)
  · obtain ⟨x, y, z, rfl, i, j, k⟩ := iv.three
    cases ik
    refine bind_eq (t := alloc { cls := .type "dict", data := .dict #[] } >>= fun d => pure [(("self" : Str), x), ("_name", y), ("_value", z), ("_params", .ref d)]) (by kernel_rfl) ?_
    refine wpAny_bind (wpAny_alloc (wpAny_pure ?_))
    have G := Go.allocO (o := dctObj #[] 0) (c := .dict []) ok rfl ⟨#[], 0, Heap.get?_push_size _ rfl, .nil⟩
    refine ⟨g, _, [x, y, z, .ref s.heap.objs.size], _, rfl, G, .cons i (.cons j (.cons k (.cons (.v _) .nil))), _, rfl, rfl, ?_⟩
    have h181 := Heap.lt_size (ok.kin 181 _ rfl)
    have : sysModules = 1 := rfl
    rw [this]
    exact beq_eq_false_iff_ne.mpr (Nat.ne_of_gt (Nat.lt_trans (by decide) h181))
  · subst e1 e2
    have hh := room.h
    have hρ' : ([("self", some (me la)), ("_name", some (.str nm)), ("_value", some (.str v)), ("_params", some (.v (.ref a))), ("parts", none), ("k", none), ("v", none)] : Rho) = ρ := by rw [← hρ]; kernel_rfl
    have hκ' : ([] : Rho) = κ := by rw [← hκ]; kernel_rfl
    subst hρ' hκ'
    clear hρ hκ
    (with_reducible refine Ss.cons ?_; refine' S1.asL ?_ ?z2573hs); (case z2573hs => rfl)
    refine Ev.lstO ?_
    refine Evs.nil ⟨by decide, fun pa => ?_⟩
    (with_reducible refine put_4 ?_; refine Ss.cons ?_; refine S1.ite ?_; refine' Te.cmp ?_ ?z2581hm); (case z2581hm => rfl); (with_reducible refine' Ev.loc ?z2582h ?_); (case z2582h => nest_cls); (with_reducible refine Ev.non ?_; refine Op2.isNotN ?_; refine Tr.bool ?_; refine ite_t rfl ?_; refine Ss.cons ?_; refine' S1.asL ?_ ?z2588hs); (case z2588hs => rfl); (with_reducible refine' Ev.methK (ks := ["name"]) ?_ ?z2589a ?z2589b ?z2589c ?z2589d ?z2589e ?z2589f); (case z2589a => exact ⟨_, rfl⟩); (case z2589b => intro _; rfl); (case z2589c => intro _; rfl); (case z2589d => intro _; rfl); (case z2589e => intro _; rfl); (case z2589f => exact fun _ => ⟨_, _, rfl⟩); (with_reducible refine' Ev.loc ?z2590h ?_); (case z2590h => nest_cls); (with_reducible refine' meth184 ?z2591hf ?z2591ht ?z2591o ?z2591hs ?_); (case z2591hf => lcg_sub); (case z2591ht => lcg_off); (case z2591o => with_reducible exact ObjOf.frz); (case z2591hs => kernel_rfl); (with_reducible refine' And.intro ?z2592k ?_); (case z2592k => with_reducible exact k_83 _ _ _ _); (with_reducible refine' Evs.cons ?_ ?z2593he); (case z2593he => rfl); (with_reducible refine' Ev.loc ?z2594h ?_); (case z2594h => nest_cls); (with_reducible refine Evs.nil ?_; refine EvK.one ?_; refine Ev.bool ?_; refine' And.intro ?z2598k ?_); (case z2598k => kwd_rel); (with_reducible refine Ca.app1 ?_; refine Ca.zip1 ?_)
    refine conv_ca w mg mb os room (b := false) (by rw [if_neg (by decide)]; exact h4) ?_
    (with_reducible refine put_2 ?_; refine Ss.cons ?_; refine' S1.exprAny ?_ ?z2605hi ?z2605hs); (case z2605hi => rfl); (case z2605hs => rfl); (with_reducible refine' Ev.meth ?_ ?z2606hm ?z2606hp); (case z2606hm => exact ⟨_, rfl⟩); (case z2606hp => intro _; rfl); (with_reducible refine' Ev.loc ?z2607h ?_); (case z2607h => nest_cls)
    refine GetM.list (ds := []) (.own (.head _)) slot_list_append (by first | exact type_list_append | exact PySem.F.type_list_append) ?_
    (with_reducible refine' And.intro ?z2608k ?_); (case z2608k => with_reducible exact Kp.bui); (with_reducible refine' Evs.cons ?_ ?z2609he); (case z2609he => rfl); (with_reducible refine' Ev.loc ?z2610h ?_); (case z2610h => nest_cls); (with_reducible refine Evs.nil ?_; refine Ca.app1 ?_)
    refine Ca.append (ds := []) .here (by decide) ?_
    (with_reducible refine Ss.nil ?_; refine Ss.cons ?_)
    refine S1.forItems0 (a := a) hh ?_ ?_ e3 ⟨_, rfl⟩ (fun _ => rfl) ?_
    · refine Ev.loc (d := .v (.ref a)) ?_ ⟨rfl, rfl⟩
      nest_cls
    · nest_cls
    (with_reducible refine Ss.cons ?_; refine' S1.exprAny ?_ ?z2616hi ?z2616hs); (case z2616hi => rfl); (case z2616hs => rfl); (with_reducible refine' Ev.meth ?_ ?z2617hm ?z2617hp); (case z2617hm => exact ⟨_, rfl⟩); (case z2617hp => intro _; rfl); (with_reducible refine' Ev.attr ?_ ?z2618he); (case z2618he => rfl); (with_reducible refine' Ev.loc ?z2619h ?_); (case z2619h => nest_cls); (with_reducible refine' attr184 ?z2620ha ?z2620o ?_); (case z2620ha => with_reducible exact a__headers _ _ _ _); (case z2620o => with_reducible exact ObjOf.frz); (with_reducible refine fat0 ?_; refine' hq ?z2622h ?_); (case z2622h => rfl)
    refine GetM.list (ds := itemsD l) (.own (by nest_cls)) slot_list_append (by first | exact type_list_append | exact PySem.F.type_list_append) ?_
    (with_reducible refine' And.intro ?z2623k ?_); (case z2623k => with_reducible exact Kp.bui); (with_reducible refine' Evs.cons ?_ ?z2624he); (case z2624he => rfl); (with_reducible refine Ev.tup ?_; refine' Evs.cons ?_ ?z2626he); (case z2626he => rfl); (with_reducible refine' Ev.methK (ks := ["name"]) ?_ ?z2627a ?z2627b ?z2627c ?z2627d ?z2627e ?z2627f); (case z2627a => exact ⟨_, rfl⟩); (case z2627b => intro _; rfl); (case z2627c => intro _; rfl); (case z2627d => intro _; rfl); (case z2627e => intro _; rfl); (case z2627f => exact fun _ => ⟨_, _, rfl⟩); (with_reducible refine' Ev.loc ?z2628h ?_); (case z2628h => nest_cls); (with_reducible refine' meth184 ?z2629hf ?z2629ht ?z2629o ?z2629hs ?_); (case z2629hf => lcg_sub); (case z2629ht => lcg_off); (case z2629o => with_reducible exact ObjOf.frz); (case z2629hs => kernel_rfl); (with_reducible refine' And.intro ?z2630k ?_); (case z2630k => with_reducible exact k_83 _ _ _ _); (with_reducible refine' Evs.cons ?_ ?z2631he); (case z2631he => rfl); (with_reducible refine' Ev.loc ?z2632h ?_); (case z2632h => nest_cls); (with_reducible refine Evs.nil ?_; refine EvK.one ?_; refine Ev.bool ?_; refine' And.intro ?z2636k ?_); (case z2636k => kwd_rel); (with_reducible refine Ca.app1 ?_; refine Ca.zip1 ?_)
    refine conv_ca w mg mb os room (b := true) (by rw [if_pos rfl]; exact h3) ?_
    (with_reducible refine' Evs.cons ?_ ?z2639he); (case z2639he => rfl); (with_reducible refine' Ev.meth ?_ ?z2640hm ?z2640hp); (case z2640hm => exact ⟨_, rfl⟩); (case z2640hp => intro _; rfl); (with_reducible refine Ev.str ?_)
    refine GetM.str PySem.F.slot_str_join PySem.F.type_str_join ?_
    (with_reducible refine' And.intro ?z2642k ?_); (case z2642k => with_reducible exact Kp.bui); (with_reducible refine' Evs.cons ?_ ?z2643he); (case z2643he => rfl); (with_reducible refine' Ev.loc ?z2644h ?_); (case z2644h => nest_cls); (with_reducible refine Evs.nil ?_; refine Ca.app1 ?_)
    refine Ca.join (ts := [v]) (.own (.head _)) (joinOkOne (by decide +kernel) (by exact om_60 hv)) ?_
    rw [joinOne]
    (with_reducible refine Evs.nil ?_; refine And.intro (Nat.le_of_ble_eq_true rfl) ?_; refine Evs.nil ?_; refine Ca.app1 ?_)
    refine Ca.append (ds := itemsD l) (.there (.there .here)) (by unfold itemsD; rw [List.length_map]; unfold sizeLine; exact om_21 hz) ?_
    (with_reducible refine Ss.nil ?_)
    have e : itemsD l ++ [D.tup [.str nm, .str v]] = itemsD (l ++ [(nm, v)]) := by unfold itemsD; rw [List.map_append]; rfl
    rw [e]
    exact ⟨_, .next, .of (.cons _ (.cons _ (List.Sublist.refl _))), rfl⟩
end
section
variable (w : World) (mg mb : Str → Option Value) (os : OsState)
theorem b_VE : Bui (Γ1 w mg mb os) "ValueError" VE := ⟨by kernel_rfl, by kernel_rfl, by decide, by decide⟩
theorem c_convR (me : D) (v : Str) (b : Bool) (hn : isHit (if b then codeN else codeV) v = true) : CalR (Γ1 w mg mb os) 1 (.ref 83) [me, .str v] [("name", .bool b)] [] fun O' => O' = [] := by
  refine CalR.intro (params := ["self", "value", "name"]) (bds := [me, .str v, .bool b]) [("self", some me), ("value", some (.str v)), ("name", some (.bool b)), ("regex", none)] rfl (by kernel_rfl) rfl ⟨rfl, rfl, rfl, rfl, rfl, rfl⟩
    (fun g s vs ks ok iv ik => ?_) (by decide +kernel) (by decide +kernel) (by decide +kernel) (by decide +kernel) (by kernel_rfl) (by kernel_rfl) fun A L sk hA room => ?_
  · obtain ⟨x, y, rfl, i, j⟩ := iv.two
    obtain ⟨z, rfl, k⟩ := InL.one ik
    exact ⟨[x, y, z], .of_eq (by kernel_rfl), .cons i (.cons j (.cons k .nil))⟩
  · have hh := room.h
    refine ExsR.consR (ExsR.ite ?_)
    (with_reducible refine' Te.cmp ?_ ?z2652hm); (case z2652hm => rfl); (with_reducible refine' Ev.call ?_ ?z2653hp); (case z2653hp => intro _; rfl); (with_reducible refine' Ev.bui ?z2654h ?_ ?z2654hx); (case z2654h => with_reducible exact b_type _ _ _ _); (case z2654hx => kernel_rfl); (with_reducible refine' ⟨_, rfl, ?z2655k, ?_⟩); (case z2655k => with_reducible exact Kp.typ); (with_reducible refine' Evs.cons ?_ ?z2656he); (case z2656he => rfl); (with_reducible refine' Ev.loc ?z2657h ?_); (case z2657h => nest_cls); (with_reducible refine Evs.nil ?_; refine' Ca.type ?z2659h ?z2659hb ?_); (case z2659h => rfl); (case z2659hb => decide); (with_reducible refine' Ev.bui ?z2660h ?_ ?z2660hx); (case z2660h => with_reducible exact b_str _ _ _ _); (case z2660hx => kernel_rfl); (with_reducible refine' Op2.isV ?z2661h ?_); (case z2661h => rfl); (with_reducible refine Tr.bool ?_; refine ite_t rfl ?_)
    refine ExsR.consN ?_
    cases b with
    | true =>
      rw [if_pos rfl] at hn
      (with_reducible refine' S1.asL ?_ ?z2664hs); (case z2664hs => rfl); (with_reducible refine Ev.ife ?_; refine' Te.val ?_ ?z2666he); (case z2666he => rfl); (with_reducible refine' Ev.loc ?z2667h ?_); (case z2667h => nest_cls); (with_reducible refine Tr.bool ?_; refine ite_t rfl ?_; refine' Ev.glo ?z2670h ?_ ?z2670hx); (case z2670h => with_reducible exact n__name_disallowed_re _ _ _ _); (case z2670hx => kernel_rfl); (with_reducible refine put_3 ?_)
      refine ExsR.consR (ExsR.ite ?_)
      refine Te.methB ?_ (by rfl) ⟨_, rfl⟩ (by intro _; rfl)
      (with_reducible refine' Ev.loc ?z2675h ?_); (case z2675h => nest_cls); (with_reducible refine' GetM.pat ?z2676h ?_); (case z2676h => first | with_reducible exact pat48 _ _ _ _ | with_reducible exact pat53 _ _ _ _); (with_reducible refine' And.intro ?z2677k ?_); (case z2677k => with_reducible exact Kp.bui); (with_reducible refine' Evs.cons ?_ ?z2678he); (case z2678he => rfl); (with_reducible refine' Ev.loc ?z2679h ?_); (case z2679h => nest_cls); (with_reducible refine Evs.nil ?_)
      refine CaB.hit (pat48 w mg mb os) hn ?_
      rw [if_pos rfl]
      refine ExsR.consR (ExsR.raise hh ?_ rfl rfl)
      refine Ev.bui (b_VE w mg mb os) ⟨rfl, ?_⟩ rfl
      (with_reducible refine' Evs.cons ?_ ?z2681he); (case z2681he => rfl); (with_reducible refine Ev.str ?_; refine Evs.nil ?_; refine And.intro (Nat.le_of_ble_eq_true rfl) ?_)
      rfl
    | false =>
      rw [if_neg (by decide)] at hn
      (with_reducible refine' S1.asL ?_ ?z2685hs); (case z2685hs => rfl); (with_reducible refine Ev.ife ?_; refine' Te.val ?_ ?z2687he); (case z2687he => rfl); (with_reducible refine' Ev.loc ?z2688h ?_); (case z2688h => nest_cls); (with_reducible refine Tr.bool ?_; refine ite_f Bool.false_ne_true ?_; refine' Ev.glo ?z2691h ?_ ?z2691hx); (case z2691h => with_reducible exact n__value_disallowed_re _ _ _ _); (case z2691hx => kernel_rfl); (with_reducible refine put_3 ?_)
      refine ExsR.consR (ExsR.ite ?_)
      refine Te.methB ?_ (by rfl) ⟨_, rfl⟩ (by intro _; rfl)
      (with_reducible refine' Ev.loc ?z2696h ?_); (case z2696h => nest_cls); (with_reducible refine' GetM.pat ?z2697h ?_); (case z2697h => first | with_reducible exact pat48 _ _ _ _ | with_reducible exact pat53 _ _ _ _); (with_reducible refine' And.intro ?z2698k ?_); (case z2698k => with_reducible exact Kp.bui); (with_reducible refine' Evs.cons ?_ ?z2699he); (case z2699he => rfl); (with_reducible refine' Ev.loc ?z2700h ?_); (case z2700h => nest_cls); (with_reducible refine Evs.nil ?_)
      refine CaB.hit (pat53 w mg mb os) hn ?_
      rw [if_pos rfl]
      refine ExsR.consR (ExsR.raise hh ?_ rfl rfl)
      refine Ev.bui (b_VE w mg mb os) ⟨rfl, ?_⟩ rfl
      (with_reducible refine' Evs.cons ?_ ?z2702he); (case z2702he => rfl); (with_reducible refine Ev.str ?_; refine Evs.nil ?_; refine And.intro (Nat.le_of_ble_eq_true rfl) ?_)
      rfl
theorem conv_caR {A : Around} {l : List Env} {O : Own} {me : D} {v : Str} {b : Bool} {Q : Own → Prop} (hA : A.frames = some l) (r : Room A 1) (hn : isHit (if b then codeN else codeV) v = true) (q : Q O) : CaR (Γ1 w mg mb os) A l O (.ref 83) [me, .str v] [("name", .bool b)] Q :=
  CalR.ca (CalR.pure (c_convR w mg mb os me v b hn) fun O' h => ⟨h, q⟩) hA r
theorem c_getR (la : Addr) (nm : Str) (h0 : (lowered nm).length ≤ sizeLine) (h1 : isHit codeN (lowered nm) = true) :
    CalR (Γ1 w mg mb os) 2 (.ref 131) [me la, .str nm] [] [] fun O' => O' = [] := by
  refine CalR.intro (params := ["self", "name", "default"]) (bds := [me la, .str nm, .none]) [("self", some (me la)), ("name", some (.str nm)), ("default", some .none), ("k", none), ("v", none)] rfl (by kernel_rfl) rfl ⟨rfl, rfl, rfl, rfl, rfl, rfl⟩
    (fun g s vs ks ok iv ik => ?_) (by decide +kernel) (by decide +kernel) (by decide +kernel) (by decide +kernel) (by kernel_rfl) (by kernel_rfl) fun A L sk hA room => ?_
  · obtain ⟨x, y, rfl, i, j⟩ := iv.two
    exact ⟨[x, y, .none], binds_K (K := (Γ1 w mg mb os).K) ok.kin rfl rfl rfl rfl rfl, .cons i (.cons j (.cons .none .nil))⟩
  · have hh := room.h
    refine ExsR.consR (ExsR.as ?_ rfl)
    refine EvR.methK (ks := ["name"]) ?_ ⟨_, rfl⟩ (by intro _; rfl) (by intro _; rfl) (by intro _; rfl) (by intro _; rfl) (by intro _; exact ⟨_, _, rfl⟩)
    (with_reducible refine' Ev.loc ?z2706h ?_); (case z2706h => nest_cls); (with_reducible refine' meth184 ?z2707hf ?z2707ht ?z2707o ?z2707hs ?_); (case z2707hf => lcg_sub); (case z2707ht => lcg_off); (case z2707o => with_reducible exact ObjOf.frz); (case z2707hs => kernel_rfl); (with_reducible refine' And.intro ?z2708k ?_); (case z2708k => with_reducible exact k_83 _ _ _ _); (with_reducible refine' Evs.cons ?_ ?z2709he); (case z2709he => rfl); (with_reducible refine' Ev.meth ?_ ?z2710hm ?z2710hp); (case z2710hm => exact ⟨_, rfl⟩); (case z2710hp => intro _; rfl); (with_reducible refine' Ev.loc ?z2711h ?_); (case z2711h => nest_cls); (with_reducible refine' GetM.str ?z2712sl ?z2712ty ?_); (case z2712sl => first | with_reducible exact PySem.F.slot_str_lower | with_reducible exact PySem.F.slot_str_upper); (case z2712ty => first | with_reducible exact PySem.F.type_str_lower | with_reducible exact PySem.F.type_str_upper); (with_reducible refine' And.intro ?z2713k ?_); (case z2713k => with_reducible exact Kp.bui); (with_reducible refine Evs.nil ?_; refine Ca.app1 ?_; refine' Ca.lower ?z2716h ?_); (case z2716h => with_reducible assumption); (with_reducible refine Evs.nil ?_; refine EvK.one ?_; refine Ev.bool ?_; refine' And.intro ?z2720k ?_); (case z2720k => kwd_rel)
    refine conv_caR w mg mb os hA room (b := true) (by rw [if_pos rfl]; exact h1) rfl
theorem c_sdefR1 (la : Addr) (nm v : Str) (h0 : (lowered nm).length ≤ sizeLine) (h1 : isHit codeN (lowered nm) = true) :
    CalR (Γ1 w mg mb os) 3 (.ref 174) [me la, .str nm, .str v] [] [] fun O' => O' = [] := by
  refine CalR.intro (params := ["self", "name", "value"]) (bds := [me la, .str nm, .str v]) [("self", some (me la)), ("name", some (.str nm)), ("value", some (.str v)), ("result", none)] rfl (by kernel_rfl) rfl ⟨rfl, rfl, rfl, rfl, rfl, rfl⟩
    (fun g s vs ks ok iv ik => ?_) (by decide +kernel) (by decide +kernel) (by decide +kernel) (by decide +kernel) (by kernel_rfl) (by kernel_rfl) fun A L sk hA room => ?_
  · obtain ⟨x, y, z, rfl, i, j, k⟩ := iv.three
    exact ⟨[x, y, z], .of_eq (by kernel_rfl), iv⟩
  · have hh := room.h
    refine ExsR.consR (ExsR.as ?_ rfl)
    refine EvR.meth ?_ ⟨_, rfl⟩ (by intro _; rfl)
    (with_reducible refine' Ev.loc ?z2721h ?_); (case z2721h => nest_cls); (with_reducible refine' meth184 ?z2722hf ?z2722ht ?z2722o ?z2722hs ?_); (case z2722hf => lcg_sub); (case z2722ht => lcg_off); (case z2722o => with_reducible exact ObjOf.frz); (case z2722hs => kernel_rfl); (with_reducible refine' And.intro ?z2723k ?_); (case z2723k => with_reducible exact k_131 _ _ _ _); (with_reducible refine' Evs.cons ?_ ?z2724he); (case z2724he => rfl); (with_reducible refine' Ev.loc ?z2725h ?_); (case z2725h => nest_cls); (with_reducible refine Evs.nil ?_)
    exact CalR.ca (c_getR w mg mb os la nm h0 h1) hA room
theorem c_sdefR2 (la : Addr) (l : List (Str × Str)) (nm v : Str) (h1 : okName nm = true) (h2 : ∀ p ∈ l, (lowered p.1).length ≤ sizeLine) (h3 : noHit codeN nm = true) (h4 : isHit codeV v = true) (hg : getGo nm l = .none) :
    CalR (Γ1 w mg mb os) 3 (.ref 174) [me la, .str nm, .str v] [] [(la, .list (itemsD l))] fun O' => O' = [(la, .list (itemsD l))] := by
  refine CalR.intro (params := ["self", "name", "value"]) (bds := [me la, .str nm, .str v]) [("self", some (me la)), ("name", some (.str nm)), ("value", some (.str v)), ("result", none)] rfl (by kernel_rfl) rfl ⟨rfl, rfl, rfl, rfl, rfl, rfl⟩
    (fun g s vs ks ok iv ik => ?_) (by decide +kernel) (by decide +kernel) (by decide +kernel) (by decide +kernel) (by kernel_rfl) (by kernel_rfl) fun A L sk hA room => ?_
  · obtain ⟨x, y, z, rfl, i, j, k⟩ := iv.three
    exact ⟨[x, y, z], .of_eq (by kernel_rfl), iv⟩
  · have hh := room.h
    have room1 : Room A 1 := room.less (by decide)
    refine ExsR.consN ?_
    (with_reducible refine' S1.asL ?_ ?z2727hs); (case z2727hs => rfl); (with_reducible refine' Ev.meth ?_ ?z2728hm ?z2728hp); (case z2728hm => exact ⟨_, rfl⟩); (case z2728hp => intro _; rfl); (with_reducible refine' Ev.loc ?z2729h ?_); (case z2729h => nest_cls); (with_reducible refine' meth184 ?z2730hf ?z2730ht ?z2730o ?z2730hs ?_); (case z2730hf => lcg_sub); (case z2730ht => lcg_off); (case z2730o => with_reducible exact ObjOf.frz); (case z2730hs => kernel_rfl); (with_reducible refine' And.intro ?z2731k ?_); (case z2731k => with_reducible exact k_131 _ _ _ _); (with_reducible refine' Evs.cons ?_ ?z2732he); (case z2732he => rfl); (with_reducible refine' Ev.loc ?z2733h ?_); (case z2733h => nest_cls); (with_reducible refine Evs.nil ?_; refine Ca.app1 ?_)
    refine Cal.ca (Cal.mono (c_get w mg mb os la l nm h1 h2) fun d O' hd => ?_) room
    obtain ⟨hos, rfl⟩ := hd
    rw [hg]
    (with_reducible refine put_3 ?_)
    refine ExsR.weak (O₂ := [(la, .list (itemsD l))]) hos ?_
    refine ExsR.consR (ExsR.ite ?_)
    (with_reducible refine' Te.cmp ?_ ?z2740hm); (case z2740hm => rfl); (with_reducible refine' Ev.loc ?z2741h ?_); (case z2741h => nest_cls); (with_reducible refine Ev.non ?_; refine Op2.isN ?_; refine Tr.bool ?_; refine ite_t rfl ?_)
    refine ExsR.consR (ExsR.expr ?_ rfl rfl)
    refine EvR.methArgs ?_ ⟨_, rfl⟩ (by intro _; rfl)
    (with_reducible refine' Ev.attr ?_ ?z2746he); (case z2746he => rfl); (with_reducible refine' Ev.loc ?z2747h ?_); (case z2747h => nest_cls); (with_reducible refine' attr184 ?z2748ha ?z2748o ?_); (case z2748ha => with_reducible exact a__headers _ _ _ _); (case z2748o => with_reducible exact ObjOf.frz); (with_reducible refine fat0 ?_; refine' hq ?z2750h ?_); (case z2750h => rfl)
    refine GetM.list (ds := itemsD l) (.own (.head _)) slot_list_append (by first | exact type_list_append | exact PySem.F.type_list_append) ?_
    refine ⟨Kp.bui, EvsR.head (EvR.tup (EvsR.tail ?_ rfl)) rfl⟩
    (with_reducible refine' Ev.methK (ks := ["name"]) ?_ ?z2751a ?z2751b ?z2751c ?z2751d ?z2751e ?z2751f); (case z2751a => exact ⟨_, rfl⟩); (case z2751b => intro _; rfl); (case z2751c => intro _; rfl); (case z2751d => intro _; rfl); (case z2751e => intro _; rfl); (case z2751f => exact fun _ => ⟨_, _, rfl⟩); (with_reducible refine' Ev.loc ?z2752h ?_); (case z2752h => nest_cls); (with_reducible refine' meth184 ?z2753hf ?z2753ht ?z2753o ?z2753hs ?_); (case z2753hf => lcg_sub); (case z2753ht => lcg_off); (case z2753o => with_reducible exact ObjOf.frz); (case z2753hs => kernel_rfl); (with_reducible refine' And.intro ?z2754k ?_); (case z2754k => with_reducible exact k_83 _ _ _ _); (with_reducible refine' Evs.cons ?_ ?z2755he); (case z2755he => rfl); (with_reducible refine' Ev.loc ?z2756h ?_); (case z2756h => nest_cls); (with_reducible refine Evs.nil ?_; refine EvK.one ?_; refine Ev.bool ?_; refine' And.intro ?z2760k ?_); (case z2760k => kwd_rel); (with_reducible refine Ca.app1 ?_; refine Ca.zip1 ?_)
    refine conv_ca w mg mb os room1 (b := true) (by rw [if_pos rfl]; exact h3) ?_
    refine EvsR.head ?_ rfl
    refine EvR.methK (ks := ["name"]) ?_ ⟨_, rfl⟩ (by intro _; rfl) (by intro _; rfl) (by intro _; rfl) (by intro _; rfl) (by intro _; exact ⟨_, _, rfl⟩)
    (with_reducible refine' Ev.loc ?z2763h ?_); (case z2763h => nest_cls); (with_reducible refine' meth184 ?z2764hf ?z2764ht ?z2764o ?z2764hs ?_); (case z2764hf => lcg_sub); (case z2764ht => lcg_off); (case z2764o => with_reducible exact ObjOf.frz); (case z2764hs => kernel_rfl); (with_reducible refine' And.intro ?z2765k ?_); (case z2765k => with_reducible exact k_83 _ _ _ _); (with_reducible refine' Evs.cons ?_ ?z2766he); (case z2766he => rfl); (with_reducible refine' Ev.loc ?z2767h ?_); (case z2767h => nest_cls); (with_reducible refine Evs.nil ?_; refine EvK.one ?_; refine Ev.bool ?_; refine' And.intro ?z2771k ?_); (case z2771k => kwd_rel)
    exact conv_caR w mg mb os hA room1 (b := false) (by rw [if_neg (by decide)]; exact h4) rfl
end
section
variable (w : World) (mg mb : Str → Option Value) (os : OsState)
theorem c_refR1 (la : Addr) (nm v : Str) (O : Own) (h0 : (lowered nm).length ≤ sizeLine) (h1 : isHit codeN (lowered nm) = true) :
    CalF (Γ1 w mg mb os) 4 (.ref 299) [me la, .str nm, .str v] [] O fun d O' => d = .bool true ∧ O' = O := by
  refine CalF.introTry (params := ["table", "name", "value"]) (bds := [me la, .str nm, .str v]) [("table", some (me la)), ("name", some (.str nm)), ("value", some (.str v))] rfl (by kernel_rfl) rfl ⟨rfl, rfl, rfl, rfl, rfl, rfl⟩
    (fun g s vs ks ok iv ik => ?_) (by decide +kernel) (by decide +kernel) (by decide +kernel) (by decide +kernel) (by kernel_rfl) (by kernel_rfl) (b_VE w mg mb os) (fun _ => rfl) (fun _ => rfl) (fun _ => rfl) fun A L sk hA room => ?_
  · obtain ⟨x, y, z, rfl, i, j, k⟩ := iv.three
    exact ⟨[x, y, z], .of_eq (by kernel_rfl), iv⟩
  · have hh := room.h
    refine EvR.meth ?_ ⟨_, rfl⟩ (by intro _; rfl)
    (with_reducible refine' Ev.loc ?z2772h ?_); (case z2772h => nest_cls); (with_reducible refine' meth184 ?z2773hf ?z2773ht ?z2773o ?z2773hs ?_); (case z2773hf => lcg_sub); (case z2773ht => lcg_off); (case z2773o => with_reducible exact ObjOf.frz); (case z2773hs => kernel_rfl); (with_reducible refine' And.intro ?z2774k ?_); (case z2774k => with_reducible exact k_174 _ _ _ _); (with_reducible refine' Evs.cons ?_ ?z2775he); (case z2775he => rfl); (with_reducible refine' Ev.loc ?z2776h ?_); (case z2776h => nest_cls); (with_reducible refine' Evs.cons ?_ ?z2777he); (case z2777he => rfl); (with_reducible refine' Ev.loc ?z2778h ?_); (case z2778h => nest_cls); (with_reducible refine Evs.nil ?_)
    exact CalR.ca (CalR.pure (c_sdefR1 w mg mb os la nm v h0 h1) fun O' e => ⟨e, rfl⟩) hA room
theorem c_refR2 (la : Addr) (l : List (Str × Str)) (nm v : Str) (P : Own) (h1 : okName nm = true) (h2 : ∀ p ∈ l, (lowered p.1).length ≤ sizeLine) (h3 : noHit codeN nm = true) (h4 : isHit codeV v = true) (hg : getGo nm l = .none) :
    CalF (Γ1 w mg mb os) 4 (.ref 299) [me la, .str nm, .str v] [] ((la, .list (itemsD l)) :: P) fun d O' => d = .bool true ∧ O' = (la, .list (itemsD l)) :: P := by
  refine CalF.introTry (params := ["table", "name", "value"]) (bds := [me la, .str nm, .str v]) [("table", some (me la)), ("name", some (.str nm)), ("value", some (.str v))] rfl (by kernel_rfl) rfl ⟨rfl, rfl, rfl, rfl, rfl, rfl⟩
    (fun g s vs ks ok iv ik => ?_) (by decide +kernel) (by decide +kernel) (by decide +kernel) (by decide +kernel) (by kernel_rfl) (by kernel_rfl) (b_VE w mg mb os) (fun _ => rfl) (fun _ => rfl) (fun _ => rfl) fun A L sk hA room => ?_
  · obtain ⟨x, y, z, rfl, i, j, k⟩ := iv.three
    exact ⟨[x, y, z], .of_eq (by kernel_rfl), iv⟩
  · have hh := room.h
    refine EvR.meth ?_ ⟨_, rfl⟩ (by intro _; rfl)
    (with_reducible refine' Ev.loc ?z2780h ?_); (case z2780h => nest_cls); (with_reducible refine' meth184 ?z2781hf ?z2781ht ?z2781o ?z2781hs ?_); (case z2781hf => lcg_sub); (case z2781ht => lcg_off); (case z2781o => with_reducible exact ObjOf.frz); (case z2781hs => kernel_rfl); (with_reducible refine' And.intro ?z2782k ?_); (case z2782k => with_reducible exact k_174 _ _ _ _); (with_reducible refine' Evs.cons ?_ ?z2783he); (case z2783he => rfl); (with_reducible refine' Ev.loc ?z2784h ?_); (case z2784h => nest_cls); (with_reducible refine' Evs.cons ?_ ?z2785he); (case z2785he => rfl); (with_reducible refine' Ev.loc ?z2786h ?_); (case z2786h => nest_cls); (with_reducible refine Evs.nil ?_)
    exact CalR.ca (CalR.frame (P := P) (c_sdefR2 w mg mb os la l nm v h1 h2 h3 h4 hg) fun O' e => by rw [e]; rfl) hA room
theorem c_refN (la : Addr) (l : List (Str × Str)) (nm v : Str) (hz : l.length ≤ 100000) (h1 : okName nm = true) (h2 : ∀ p ∈ l, (lowered p.1).length ≤ sizeLine) (h3 : noHit codeN nm = true) (h4 : noHit codeV v = true) (hg : getGo nm l = .none) :
    Cal (Γ1 w mg mb os) 4 (.ref 299) [me la, .str nm, .str v] [] [(la, .list (itemsD l))] fun d O' => OS [(la, .list (itemsD (l ++ [(nm, v)])))] O' ∧ d = .bool false := by
  refine Cal.intro (params := ["table", "name", "value"]) (bds := [me la, .str nm, .str v]) [("table", some (me la)), ("name", some (.str nm)), ("value", some (.str v))] [] rfl (by kernel_rfl) rfl ⟨rfl, rfl, rfl, rfl, rfl, rfl⟩
    (fun g s vs ks ok iv ik => ?_) (by decide +kernel) (by decide +kernel) (by decide +kernel) (by decide +kernel) (by kernel_rfl) (by kernel_rfl) fun A L room => ?_
  · obtain ⟨x, y, z, rfl, i, j, k⟩ := iv.three
    exact ⟨[x, y, z], .of_eq (by kernel_rfl), iv⟩
  · have hh := room.h
    refine Ss.cons (S1.tryN ?_)
    refine Ss.cons (S1.exprAny ?_ rfl rfl)
    (with_reducible refine' Ev.meth ?_ ?z2788hm ?z2788hp); (case z2788hm => exact ⟨_, rfl⟩); (case z2788hp => intro _; rfl); (with_reducible refine' Ev.loc ?z2789h ?_); (case z2789h => nest_cls); (with_reducible refine' meth184 ?z2790hf ?z2790ht ?z2790o ?z2790hs ?_); (case z2790hf => lcg_sub); (case z2790ht => lcg_off); (case z2790o => with_reducible exact ObjOf.frz); (case z2790hs => kernel_rfl); (with_reducible refine' And.intro ?z2791k ?_); (case z2791k => with_reducible exact k_174 _ _ _ _); (with_reducible refine' Evs.cons ?_ ?z2792he); (case z2792he => rfl); (with_reducible refine' Ev.loc ?z2793h ?_); (case z2793h => nest_cls); (with_reducible refine' Evs.cons ?_ ?z2794he); (case z2794he => rfl); (with_reducible refine' Ev.loc ?z2795h ?_); (case z2795h => nest_cls); (with_reducible refine Evs.nil ?_; refine Ca.app1 ?_)
    refine Cal.ca (Cal.mono (c_sdefN w mg mb os la l nm v hz h1 h2 h3 h4 hg) fun d O' hd => ?_) room
    obtain ⟨hos, rfl⟩ := hd
    refine Ss.nil ⟨rfl, ?_⟩
    refine Exs.weak .refl hos ?_
    (with_reducible refine Ss.cons ?_; refine S1.ret ?_; refine Ev.bool ?_)
    exact ⟨_, .ret, .refl, rfl⟩
end
section
variable (w : World) (mg mb : Str → Option Value) (os : OsState)
theorem OS.app {O' O P : Own} (h : OS O' O) : OS (O' ++ P) (O ++ P) := let ⟨Q, a, b⟩ := h; ⟨Q ++ P, a.append_right P, b.append (List.Sublist.refl P)⟩
theorem OS.prm {O'' O' O : Own} (p : List.Perm O'' O') (h : OS O' O) : OS O'' O := let ⟨Q, a, b⟩ := h; ⟨Q, p.trans a, b⟩
theorem OS.ca {Γ : Gam} {A : Around} {n : Nat} {f : Value} {ds : List D} {O P R : Own} {Q : D → Own → Prop} {B : D → Prop} (h : Cal Γ n f ds [] O fun d O' => OS R O' ∧ B d) (r : Room A n) (k : ∀ d O', OS (P ++ R) O' → B d → Q d O') : Ca Γ A (P ++ O) f ds [] Q :=
  Cal.ca (Cal.perm (List.perm_append_comm) (Cal.frame (P := P) h fun d O' q => k d _ (.prm List.perm_append_comm (q.1.app)) q.2)) r
theorem Go.ofOS {Γ : Gam} {g g' : Heap} {s s' : Shared} {O O₂ O' : Own} (l : OS O₂ O) (G : Go Γ g s O₂ g' s' O') : Go Γ g s O g' s' O' :=
  ⟨G.ok, G.to.weak fun b hb => .inl (l.dom b hb), fun b hb => (G.wi b hb).imp (l.dom b) id⟩
theorem Ca.weak {Γ : Gam} {A : Around} {O O₂ : Own} {f : Value} {ds : List D} {Q : D → Own → Prop} (l : OS O₂ O) (h : Ca Γ A O₂ f ds [] Q) : Ca Γ A O f ds [] Q := fun g s vs ks ok i j =>
  wpAny_mono (h g s vs ks (l.okb ok) i j) (fun v s' ⟨g', O', d, G, x⟩ => ⟨g', O', d, .ofOS l G, x⟩) fun _ _ e => e
noncomputable def wsT (raw : Str) : Int × Int × Int × List Int := wsGo raw.cps.toList 0 0 0 []
noncomputable def wsN (raw : Str) : Int := (wsT raw).1
noncomputable def wsNt (raw : Str) : Int := (wsT raw).2.1
noncomputable def wsB (raw : Str) : Int := (wsT raw).2.2.1
noncomputable def wsC (raw : Str) : List Int := (wsT raw).2.2.2
noncomputable def guyFs (raw : Str) : List (Str × D) := wsFs raw (wsN raw) (wsNt raw) (wsC raw) (wsB raw) (decide (((wsC raw).length : Int) ≤ 1))
noncomputable abbrev guyD (raw : Str) : D := .inst 264 (wsFs raw (wsN raw) (wsNt raw) (wsC raw) (wsB raw) (decide (((wsC raw).length : Int) ≤ 1)))
theorem ws_ca {A : Around} {O : Own} {raw : Str} {Q : D → Own → Prop} (r : Room A 2) (hraw : raw.cps.toList.length ≤ 100000) (q : Q (guyD raw) O) : Ca (Γ1 w mg mb os) A O (.ref 264) [.str raw] [] Q := by
  refine Ca.make (n := 1) r (mk_264 w mg mb os) (m_219 w mg mb os) (ty_219 w mg mb os) fun x dx => ?_
  refine Cal.mono (Cal.frame (P := O) (c_wsinit w mg mb os raw x dx _ _ _ _ hraw (rfl : wsGo raw.cps.toList 0 0 0 [] = (wsN raw, wsNt raw, wsB raw, wsC raw))) (Q' := fun d O' => d = .none ∧ OS ([(x, .obj 264 dx), (dx, .dict (wsFs raw (wsN raw) (wsNt raw) (wsC raw) (wsB raw) (decide (((wsC raw).length : Int) ≤ 1))))] ++ O) O') fun d O' hd => ⟨hd.1, hd.2.app⟩) fun d O' hd => ⟨hd.1, _, _, hd.2, q⟩
noncomputable def letS (k : Int) : Str := ⟨#[(96 + k).toNat]⟩
noncomputable def letF : D → Option D
  | .int k => some (.str (letS k))
  | _ => none
theorem letF_eq : ∀ told : List Int, (told.map D.int).filterMap letF = (told.map letS).map D.str
  | [] => rfl
  | a :: l => by
    rw [List.map_cons, List.filterMap_cons]
    show (D.str _ :: _) = _
    rw [letF_eq l]; rfl
noncomputable def decF : D → Option D
  | .int k => if decide (k > 1) = true then some (.int (k - 1)) else none
  | _ => none
noncomputable def decL (told : List Int) : List Int := (told.filter fun k => decide (k > 1)).map fun k => k - 1
theorem decF_eq : ∀ told : List Int, (told.map D.int).filterMap decF = (decL told).map D.int
  | [] => rfl
  | a :: l => by
    by_cases c : decide (a > 1) = true
    · have e1 : decF (.int a) = some (.int (a - 1)) := if_pos c
      rw [List.map_cons, List.filterMap_cons, e1]
      unfold decL
      rw [List.filter_cons, if_pos c, List.map_cons, List.map_cons]
      exact congrArg _ (decF_eq l)
    · have e1 : decF (.int a) = none := if_neg c
      rw [List.map_cons, List.filterMap_cons, e1]
      unfold decL
      rw [List.filter_cons, if_neg c]
      exact decF_eq l
theorem joinLet (told : List Int) (h : told.length ≤ 1000) : JoinOk "" (told.map letS) = true := by
  refine joinOk_of ?_
  have e : ((told.map letS).map (·.length)).sum = told.length := by
    clear h
    induction told with
    | nil => rfl
    | cons a l ih => rw [List.map_cons, List.map_cons, List.sum_cons, ih, List.length_cons]; show 1 + _ = _; exact om_61
  rw [e, List.length_map]
  have : (("" : Str)).length = 0 := by decide +kernel
  rw [this]; exact om_62 h e
noncomputable def letters (told : List Int) : Str := Txt.join "" (told.map letS)
noncomputable def oddI (m : Nat) : Bool := (m : Int).fmod 2 == 1
noncomputable def nameOf (m : Nat) (told : List Int) : Str := if oddI m = true then uppered (letters told) else letters told
noncomputable def beforeOf (lead : Str) (m : Nat) : Str := lead ++ Txt.mul " " ((m : Int) + 1) ++ "x\t"
noncomputable def nextP (told : List Int) (nt : Int) : List Int := decL told ++ [nt]
structure PStp (bits : Int) (m : Nat) (ps : List Int) (told : List Int) (l : List (Str × Str)) (before : Str) (gs : List Str) : Prop where
  g1 : gs.length ≤ 1000
  hm : m < 177
  hn : ps.length ≤ 100
  hp : ∀ p ∈ ps, 0 ≤ p ∧ p ≤ 400
  hr : (leadP bits ps 0 "").cps.toList.length ≤ 90000
  c1 : (wsC (leadP bits ps 0 "")).length ≤ 1000
  c2 : ∀ c ∈ wsC (leadP bits ps 0 ""), 0 ≤ c ∧ c ≤ 1000
  c3 : pilesD (wsC (leadP bits ps 0 "")) = told.map D.int
  t1 : told.length ≤ 1000
  t2 : ∀ k ∈ told, 0 ≤ k ∧ k ≤ 1000
  n0 : (uppered (letters told)).length ≤ sizeLine
  n1 : okName (nameOf m told) = true
  n2 : noHit codeN (nameOf m told) = true
  b1 : noHit codeV before = true
  l1 : ∀ p ∈ l, (lowered p.1).length ≤ sizeLine
  l2 : l.length ≤ 1000
inductive Play (bits : Int) : Nat → List Int → List (Str × Str) → Str → List Str → List Str → List (Str × Str) → Str → Prop
  | stop {m : Nat} {ps told : List Int} {l : List (Str × Str)} {before u : Str} {gs : List Str} : PStp bits m ps told l before gs → getGo (nameOf m told) l = .str u → (u == before) = false → Play bits m ps l before gs (gs ++ [leadP bits ps 0 ""]) l u
  | next {m : Nat} {ps told : List Int} {l l' : List (Str × Str)} {before u : Str} {gs gs' : List Str} : PStp bits m ps told l before gs → getGo (nameOf m told) l = .none →
      Play bits (m + 1) (nextP told (wsNt (leadP bits ps 0 ""))) (l ++ [(nameOf m told, before)]) (beforeOf (leadP bits ps 0 "") m) (gs ++ [leadP bits ps 0 ""]) gs' l' u → Play bits m ps l before gs gs' l' u
theorem c_play (la : Addr) (ps : List Int) (bits : Int) (gs' : List Str) (l' : List (Str × Str)) (u : Str) (h : Play bits 0 ps [] "" [] gs' l' u) :
    Cal (Γ1 w mg mb os) 4 (.ref 292) [.lst (ps.map D.int), .int bits, me la] [] [(la, .list [])] fun d O' => OS [(la, .list (itemsD l'))] O' ∧ d = .tup [.lst (gs'.map guyD), .lst (itemsD l'), .str u] := by
  refine Cal.intro (params := ["piles", "bits", "table"]) (bds := [.lst (ps.map D.int), .int bits, me la]) [("piles", some (.lst (ps.map D.int))), ("bits", some (.int bits)), ("table", some (me la)), ("guys", none), ("laid", none), ("before", none), ("move", none), ("lead", none), ("guy", none), ("told", none), ("name", none), ("found", none)] [] rfl (by kernel_rfl) rfl ⟨rfl, rfl, rfl, rfl, rfl, rfl⟩
    (fun g s vs ks ok iv ik => ?_) (by decide +kernel) (by decide +kernel) (by decide +kernel) (by decide +kernel) (by kernel_rfl) (by kernel_rfl) fun A L room => ?_
  · obtain ⟨x, y, z, rfl, i, j, k⟩ := iv.three
    exact ⟨[x, y, z], .of_eq (by kernel_rfl), iv⟩
  · have hh := room.h
    have room2 := room.less (k := 2) (by decide)
    have room1 := room.less (k := 1) (by decide)
    (with_reducible refine Ss.cons ?_; refine' S1.asL ?_ ?z2802hs); (case z2802hs => rfl)
    refine Ev.lstO ?_
    refine Evs.nil ⟨by decide, fun ga => ?_⟩
    (with_reducible refine put_3 ?_; refine Ss.cons ?_; refine' S1.asL ?_ ?z2808hs); (case z2808hs => rfl)
    refine Ev.lstO ?_
    refine Evs.nil ⟨by decide, fun lb => ?_⟩
    (with_reducible refine put_4 ?_; refine Ss.cons ?_; refine' S1.asL ?_ ?z2815hs); (case z2815hs => rfl); (with_reducible refine Ev.str ?_; refine put_5 ?_; refine Ss.cons ?_)
    refine' S1.forIn (σ := Nat × List Int × List (Str × Str) × Str × List Str) (fun st => [("piles", some (.lst (st.2.1.map D.int))), ("bits", some (.int bits)), ("table", some (me la)), ("guys", some (.v (.ref ga))), ("laid", some (.v (.ref lb))), ("before", some (.str st.2.2.2.1)), ("move", none), ("lead", none), ("guy", none), ("told", none), ("name", none), ("found", none)]) (fun _ => [])
      (fun st => [(lb, .list (itemsD st.2.2.1)), (ga, .list (st.2.2.2.2.map guyD)), (la, .list (itemsD st.2.2.1))])
      (fun st ds => ds = rangeFrom (st.1 : Int) 1 (177 - st.1) ∧ Play bits st.1 st.2.1 st.2.2.1 st.2.2.2.1 st.2.2.2.2 gs' l' u) hh ?_ ?_ ?_ ?hp ?hs
    case hp => rfl
    case hs => exact fun _ => rfl
    · (with_reducible refine' Ev.call ?_ ?z2824hp); (case z2824hp => intro _; rfl); (with_reducible refine' Ev.bui ?z2825h ?_ ?z2825hx); (case z2825h => with_reducible exact b_range _ _ _ _); (case z2825hx => kernel_rfl); (with_reducible refine' ⟨_, rfl, ?z2826k, ?_⟩); (case z2826k => with_reducible exact Kp.typ); (with_reducible refine' Evs.cons ?_ ?z2827he); (case z2827he => rfl); (with_reducible refine Ev.int ?_; refine Evs.nil ?_; refine Ca.range1 ?_; refine' getI_range ?z2831h ?z2831k (fun _ => ?_)); (case z2831h => decide); (case z2831k => decide)
      exact ⟨(0, ps, [], "", []), _, .refl, rfl, rfl, rfl, h⟩
    · rintro I ⟨m, ps, l, before, gs⟩ d ds ⟨e, hP⟩
      dsimp only at e hP ⊢
      obtain ⟨told, hS, hC⟩ : ∃ told, PStp bits m ps told l before gs ∧ ((getGo (nameOf m told) l = .str u ∧ (u == before) = false ∧ gs' = gs ++ [leadP bits ps 0 ""] ∧ l' = l) ∨ (getGo (nameOf m told) l = .none ∧ Play bits (m + 1) (nextP told (wsNt (leadP bits ps 0 ""))) (l ++ [(nameOf m told, before)]) (beforeOf (leadP bits ps 0 "") m) (gs ++ [leadP bits ps 0 ""]) gs' l' u)) := by
        cases hP with
        | stop a b c => exact ⟨_, a, .inl ⟨b, c, rfl, rfl⟩⟩
        | next a b c => exact ⟨_, a, .inr ⟨b, c⟩⟩
      clear hP
      have hm := hS.hm
      rw [show 177 - m = (177 - (m + 1)) + 1 by exact om_63 hm] at e
      obtain ⟨rfl, rfl⟩ := List.cons.inj e
      clear e
      have hn := hS.hn
      have n0 := hS.n0
      (with_reducible refine As.loc ?_; refine put_6 ?_; refine Ss.cons ?_; refine' S1.asL ?_ ?z2841hs); (case z2841hs => rfl); (with_reducible refine' Ev.call ?_ ?z2842hp); (case z2842hp => intro _; rfl); (with_reducible refine' Ev.glo ?z2843h ?_ ?z2843hx); (case z2843h => with_reducible exact n__law_lead _ _ _ _); (case z2843hx => kernel_rfl); (with_reducible refine' ⟨_, rfl, ?z2844k, ?_⟩); (case z2844k => with_reducible exact k_282 _ _ _ _); (with_reducible refine' Evs.cons ?_ ?z2845he); (case z2845he => rfl); (with_reducible refine' Ev.loc ?z2846h ?_); (case z2846h => nest_cls); (with_reducible refine' Evs.cons ?_ ?z2847he); (case z2847he => rfl); (with_reducible refine' Ev.loc ?z2848h ?_); (case z2848h => nest_cls); (with_reducible refine Evs.nil ?_)
      refine Ca.weak (O₂ := [(I, _), (lb, .list (itemsD l)), (ga, .list (gs.map guyD)), (la, .list (itemsD l))]) .refl ?_
      refine Cal.ca (Cal.mono (c_lead w mg mb os _ (.lst (ps.map D.int)) ps bits .frz hS.hn hS.hp) fun d O' hd => ?_) room1
      obtain ⟨hos, rfl⟩ := hd
      (with_reducible refine put_7 ?_)
      refine Exs.weak .refl hos ?_
      clear hos
      (with_reducible refine Ss.cons ?_; refine' S1.asL ?_ ?z2859hs); (case z2859hs => rfl); (with_reducible refine' Ev.call ?_ ?z2860hp); (case z2860hp => intro _; rfl); (with_reducible refine' Ev.glo ?z2861h ?_ ?z2861hx); (case z2861h => with_reducible exact n_Whitespace _ _ _ _); (case z2861hx => kernel_rfl); (with_reducible refine' ⟨_, rfl, ?z2862k, ?_⟩); (case z2862k => with_reducible exact k_264 _ _ _ _); (with_reducible refine' Evs.cons ?_ ?z2863he); (case z2863he => rfl); (with_reducible refine' Ev.loc ?z2864h ?_); (case z2864h => nest_cls); (with_reducible refine Evs.nil ?_)
      refine ws_ca w mg mb os room2 (Nat.le_trans hS.hr (by decide)) ?_
      (with_reducible refine put_8 ?_; refine Ss.cons ?_; refine' S1.exprAny ?_ ?z2876hi ?z2876hs); (case z2876hi => rfl); (case z2876hs => rfl); (with_reducible refine' Ev.meth ?_ ?z2877hm ?z2877hp); (case z2877hm => exact ⟨_, rfl⟩); (case z2877hp => intro _; rfl); (with_reducible refine' Ev.loc ?z2878h ?_); (case z2878h => nest_cls)
      refine GetM.list (ds := gs.map guyD) (.own (by nest_cls)) slot_list_append (by first | exact type_list_append | exact PySem.F.type_list_append) ?_
      (with_reducible refine' And.intro ?z2879k ?_); (case z2879k => with_reducible exact Kp.bui); (with_reducible refine' Evs.cons ?_ ?z2880he); (case z2880he => rfl); (with_reducible refine' Ev.loc ?z2881h ?_); (case z2881h => nest_cls); (with_reducible refine Evs.nil ?_; refine Ca.app1 ?_)
      refine Ca.append (ds := gs.map guyD) (.there (.there .here)) (by rw [List.length_map]; have := hS.g1; unfold sizeLine; exact om_64 this) ?_
      have eg : gs.map guyD ++ [guyD (leadP bits ps 0 "")] = (gs ++ [leadP bits ps 0 ""]).map guyD := by rw [List.map_append]; rfl
      rw [eg]
      (with_reducible refine Ss.cons ?_; refine' S1.asL ?_ ?z2885hs); (case z2885hs => rfl); (with_reducible refine' Ev.call ?_ ?z2886hp); (case z2886hp => intro _; rfl); (with_reducible refine' Ev.glo ?z2887h ?_ ?z2887hx); (case z2887h => with_reducible exact n__law_piles _ _ _ _); (case z2887hx => kernel_rfl); (with_reducible refine' ⟨_, rfl, ?z2888k, ?_⟩); (case z2888k => with_reducible exact k_287 _ _ _ _); (with_reducible refine' Evs.cons ?_ ?z2889he); (case z2889he => rfl); (with_reducible refine' Ev.loc ?z2890h ?_); (case z2890h => nest_cls); (with_reducible refine Evs.nil ?_)
      refine Cal.ca (Cal.pure (c_piles w mg mb os _ _ _ _ _ _ hS.c1 hS.c2 (by rw [hS.c3, List.length_map]; have := hS.t1; exact om_65 this)) fun d O' h => ⟨h.1, ?_⟩) room1
      rw [h.2, hS.c3]
      (with_reducible refine put_9 ?_; refine Ss.cons ?_; refine' S1.asL ?_ ?z2903hs); (case z2903hs => rfl); (with_reducible refine' Ev.meth ?_ ?z2904hm ?z2904hp); (case z2904hm => exact ⟨_, rfl⟩); (case z2904hp => intro _; rfl); (with_reducible refine Ev.str ?_)
      refine GetM.str PySem.F.slot_str_join PySem.F.type_str_join ?_
      (with_reducible refine' And.intro ?z2906k ?_); (case z2906k => with_reducible exact Kp.bui); (with_reducible refine' Evs.cons ?_ ?z2907he); (case z2907he => rfl)
      refine' Ev.compM [(".0", none), ("size", none)] [] letF hh ?hp ?c1 ?c2 ?c3 ?c4 ?c5 ?c6 ?c7 ?_
      case hp => rfl
      case c1 => rfl
      case c2 => rfl
      case c3 => decide +kernel
      case c4 => decide +kernel
      case c5 => kernel_rfl
      case c6 => exact .nil
      case c7 => exact fun _ => rfl
      (with_reducible refine' Ev.loc ?z2908h ?_); (case z2908h => nest_cls); (with_reducible refine GetI.lst (fun _ => ?_))
      refine ⟨_, _, rfl, fun L d hd' => ?_, ?_, ?_⟩
      · obtain ⟨k, hk, rfl⟩ := List.mem_map.mp hd'
        intro O
        have ef : letF (.int k) = some (.str (letS k)) := rfl
        rw [ef]
        have hk' := hS.t2 k hk
        (with_reducible refine As.loc ?_; refine put_1 ?_; refine Ifs.nil ?_; refine ite_t rfl ?_; refine' Ev.call ?_ ?z2915hp); (case z2915hp => intro _; rfl); (with_reducible refine' Ev.bui ?z2916h ?_ ?z2916hx); (case z2916h => with_reducible exact b_chr _ _ _ _); (case z2916hx => kernel_rfl); (with_reducible refine' ⟨_, rfl, ?z2917k, ?_⟩); (case z2917k => with_reducible exact Kp.bui); (with_reducible refine' Evs.cons ?_ ?z2918he); (case z2918he => rfl); (with_reducible refine Ev.bin ?_; refine Ev.int ?_; refine' Ev.loc ?z2921h ?_); (case z2921h => nest_cls); (with_reducible refine Op2.addI ?_; refine Evs.nil ?_)
        refine Ca.chr (by rw [Bool.or_eq_false_iff]; exact ⟨decide_eq_false (by exact om_66 hk'), decide_eq_false (by exact om_67 hk')⟩) ?_
        exact ⟨⟨rfl, rfl⟩, rfl, .keep (.drop .nil)⟩
      · rw [List.length_map]; have := hS.t1; unfold sizeLine; exact om_64 this
      rw [letF_eq]
      (with_reducible refine Evs.nil ?_; refine Ca.app1 ?_)
      refine Ca.join (ts := told.map letS) .frz (joinLet told hS.t1) ?_
      (with_reducible refine put_10 ?_)
      refine Ss.cons (S1.mono (Q := fun f ρ' κ' O' => f = .next ∧ ρ' = ([("piles", some (.lst (ps.map D.int))), ("bits", some (.int bits)), ("table", some (me la)), ("guys", some (.v (.ref ga))), ("laid", some (.v (.ref lb))), ("before", some (.str before)), ("move", some (.int (m : Int))), ("lead", some (.str (leadP bits ps 0 ""))), ("guy", some (guyD (leadP bits ps 0 ""))), ("told", some (.lst (told.map D.int))), ("name", some (.str (nameOf m told))), ("found", none)] : Rho) ∧ κ' = [] ∧ O' = ([(I, .iter (rangeFrom ((m : Int) + 1) 1 (177 - (m + 1)))), (lb, .list (itemsD l)), (ga, .list ((gs ++ [leadP bits ps 0 ""]).map guyD)), (la, .list (itemsD l))] : Own)) ?_ ?_)
      · by_cases c : oddI m = true
        · have cn : nameOf m told = uppered (letters told) := if_pos c
          unfold oddI at c
          rw [cn]
          show S1 _ _ _ [_, _, _, _, _, _, _, _, _, _, ("name", some (.str (letters told))), _] _ _ _ _
          (with_reducible refine S1.ite ?_; refine' Te.cmp ?_ ?z2938hm); (case z2938hm => rfl); (with_reducible refine Ev.bin ?_; refine' Ev.loc ?z2940h ?_); (case z2940h => nest_cls); (with_reducible refine Ev.int ?_; refine' Op2.modI ?z2942h ?_); (case z2942h => decide); (with_reducible refine Ev.int ?_; refine Op2.eqI ?_; refine Tr.bool ?_; refine ite_t (by with_reducible assumption) ?_; refine Ss.cons ?_; refine' S1.asL ?_ ?z2948hs); (case z2948hs => rfl); (with_reducible refine' Ev.meth ?_ ?z2949hm ?z2949hp); (case z2949hm => exact ⟨_, rfl⟩); (case z2949hp => intro _; rfl); (with_reducible refine' Ev.loc ?z2950h ?_); (case z2950h => nest_cls); (with_reducible refine' GetM.str ?z2951sl ?z2951ty ?_); (case z2951sl => first | with_reducible exact PySem.F.slot_str_lower | with_reducible exact PySem.F.slot_str_upper); (case z2951ty => first | with_reducible exact PySem.F.type_str_lower | with_reducible exact PySem.F.type_str_upper); (with_reducible refine' And.intro ?z2952k ?_); (case z2952k => with_reducible exact Kp.bui); (with_reducible refine Evs.nil ?_; refine Ca.app1 ?_; refine' Ca.upper ?z2955h ?_); (case z2955h => with_reducible assumption); (with_reducible refine put_10 ?_; refine Ss.nil ?_; refine' ⟨_, rfl, ?z2968k, ?_⟩); (case z2968k => kwd_rel)
          all_goals rfl
        · have cn : nameOf m told = letters told := if_neg c
          unfold oddI at c
          rw [cn]
          show S1 _ _ _ [_, _, _, _, _, _, _, _, _, _, ("name", some (.str (letters told))), _] _ _ _ _
          (with_reducible refine S1.ite ?_; refine' Te.cmp ?_ ?z2970hm); (case z2970hm => rfl); (with_reducible refine Ev.bin ?_; refine' Ev.loc ?z2972h ?_); (case z2972h => nest_cls); (with_reducible refine Ev.int ?_; refine' Op2.modI ?z2974h ?_); (case z2974h => decide); (with_reducible refine Ev.int ?_; refine Op2.eqI ?_; refine Tr.bool ?_; refine ite_f (by with_reducible assumption) ?_; refine Ss.nil ?_; refine' ⟨_, rfl, ?z2980k, ?_⟩); (case z2980k => kwd_rel)
          all_goals rfl
      rintro f ρ' κ' O' ⟨rfl, rfl, rfl, rfl⟩
      rcases hC with ⟨hg, hu, rfl, rfl⟩ | ⟨hg, hP⟩
      · (with_reducible refine Ss.cons ?_; refine' S1.asL ?_ ?z2982hs); (case z2982hs => rfl); (with_reducible refine' Ev.meth ?_ ?z2983hm ?z2983hp); (case z2983hm => exact ⟨_, rfl⟩); (case z2983hp => intro _; rfl); (with_reducible refine' Ev.loc ?z2984h ?_); (case z2984h => nest_cls); (with_reducible refine' meth184 ?z2985hf ?z2985ht ?z2985o ?z2985hs ?_); (case z2985hf => lcg_sub); (case z2985ht => lcg_off); (case z2985o => with_reducible exact ObjOf.frz); (case z2985hs => kernel_rfl); (with_reducible refine' And.intro ?z2986k ?_); (case z2986k => with_reducible exact k_174 _ _ _ _); (with_reducible refine' Evs.cons ?_ ?z2987he); (case z2987he => rfl); (with_reducible refine' Ev.loc ?z2988h ?_); (case z2988h => nest_cls); (with_reducible refine' Evs.cons ?_ ?z2989he); (case z2989he => rfl); (with_reducible refine' Ev.loc ?z2990h ?_); (case z2990h => nest_cls); (with_reducible refine Evs.nil ?_; refine Ca.app1 ?_)
        refine OS.ca (P := [(I, _), (lb, _), (ga, _)]) (O := [(la, .list (itemsD l'))]) (c_sdefS w mg mb os la l' _ before u hS.n1 hS.l1 hg) room fun d O' hd hv => ?_
        subst hv
        (with_reducible refine put_11 ?_)
        refine Exs.weak (O' := [(I, _), (lb, _), (ga, _), (la, .list (itemsD l'))]) .refl hd ?_
        have hu' : (u != before) = true := by unfold bne; rw [hu]; rfl
        (with_reducible refine Ss.cons ?_; refine S1.ite ?_; refine' Te.cmp ?_ ?z3007hm); (case z3007hm => rfl); (with_reducible refine' Ev.loc ?z3008h ?_); (case z3008h => nest_cls); (with_reducible refine' Ev.loc ?z3009h ?_); (case z3009h => nest_cls); (with_reducible refine Op2.neS ?_; refine Tr.bool ?_; refine ite_t (by with_reducible assumption) ?_; refine Ss.cons ?_)
        refine S1.ret (Ev.frz2 ?_)
        (with_reducible refine Ev.tup ?_; refine' Evs.cons ?_ ?z3015he); (case z3015he => rfl); (with_reducible refine' Ev.loc ?z3016h ?_); (case z3016h => nest_cls); (with_reducible refine' Evs.cons ?_ ?z3017he); (case z3017he => rfl); (with_reducible refine' Ev.loc ?z3018h ?_); (case z3018h => nest_cls); (with_reducible refine' Evs.cons ?_ ?z3019he); (case z3019he => rfl); (with_reducible refine' Ev.loc ?z3020h ?_); (case z3020h => nest_cls); (with_reducible refine Evs.nil ?_; refine And.intro (Nat.le_of_ble_eq_true rfl) ?_)
        refine ⟨ga, _, lb, _, _, [(la, .list (itemsD l'))], rfl, .swap (.cons _ (List.Sublist.refl _)), ?_⟩
        exact ⟨_, .ret, .refl, rfl⟩
      · (with_reducible refine Ss.cons ?_; refine' S1.asL ?_ ?z3024hs); (case z3024hs => rfl); (with_reducible refine' Ev.meth ?_ ?z3025hm ?z3025hp); (case z3025hm => exact ⟨_, rfl⟩); (case z3025hp => intro _; rfl); (with_reducible refine' Ev.loc ?z3026h ?_); (case z3026h => nest_cls); (with_reducible refine' meth184 ?z3027hf ?z3027ht ?z3027o ?z3027hs ?_); (case z3027hf => lcg_sub); (case z3027ht => lcg_off); (case z3027o => with_reducible exact ObjOf.frz); (case z3027hs => kernel_rfl); (with_reducible refine' And.intro ?z3028k ?_); (case z3028k => with_reducible exact k_174 _ _ _ _); (with_reducible refine' Evs.cons ?_ ?z3029he); (case z3029he => rfl); (with_reducible refine' Ev.loc ?z3030h ?_); (case z3030h => nest_cls); (with_reducible refine' Evs.cons ?_ ?z3031he); (case z3031he => rfl); (with_reducible refine' Ev.loc ?z3032h ?_); (case z3032h => nest_cls); (with_reducible refine Evs.nil ?_; refine Ca.app1 ?_)
        refine OS.ca (P := [(I, _), (lb, _), (ga, _)]) (O := [(la, .list (itemsD l))]) (c_sdefN w mg mb os la l _ before (by have := hS.l2; exact om_68 this) hS.n1 hS.l1 hS.n2 hS.b1 hg) room fun d O' hd hv => ?_
        subst hv
        (with_reducible refine put_11 ?_)
        refine Exs.weak (O' := [(I, _), (lb, _), (ga, _), (la, .list (itemsD (l ++ [(nameOf m told, before)])))]) .refl hd ?_
        have hu' : ¬ (before != before) = true := by simp
        (with_reducible refine Ss.cons ?_; refine S1.ite ?_; refine' Te.cmp ?_ ?z3049hm); (case z3049hm => rfl); (with_reducible refine' Ev.loc ?z3050h ?_); (case z3050h => nest_cls); (with_reducible refine' Ev.loc ?z3051h ?_); (case z3051h => nest_cls); (with_reducible refine Op2.neS ?_; refine Tr.bool ?_; refine ite_f (by with_reducible assumption) ?_; refine Ss.nil ?_; refine Ss.cons ?_; refine' S1.exprAny ?_ ?z3057hi ?z3057hs); (case z3057hi => rfl); (case z3057hs => rfl); (with_reducible refine' Ev.meth ?_ ?z3058hm ?z3058hp); (case z3058hm => exact ⟨_, rfl⟩); (case z3058hp => intro _; rfl); (with_reducible refine' Ev.loc ?z3059h ?_); (case z3059h => nest_cls)
        refine GetM.list (ds := itemsD l) (.own (by nest_cls)) slot_list_append (by first | exact type_list_append | exact PySem.F.type_list_append) ?_
        (with_reducible refine' And.intro ?z3060k ?_); (case z3060k => with_reducible exact Kp.bui); (with_reducible refine' Evs.cons ?_ ?z3061he); (case z3061he => rfl); (with_reducible refine Ev.tup ?_; refine' Evs.cons ?_ ?z3063he); (case z3063he => rfl); (with_reducible refine' Ev.loc ?z3064h ?_); (case z3064h => nest_cls); (with_reducible refine' Evs.cons ?_ ?z3065he); (case z3065he => rfl); (with_reducible refine' Ev.loc ?z3066h ?_); (case z3066h => nest_cls); (with_reducible refine Evs.nil ?_; refine And.intro (Nat.le_of_ble_eq_true rfl) ?_; refine Evs.nil ?_; refine Ca.app1 ?_)
        refine Ca.append (ds := itemsD l) (.there .here) (by unfold itemsD; rw [List.length_map]; have := hS.l2; unfold sizeLine; exact om_64 this) ?_
        have el : itemsD l ++ [D.tup [.str (nameOf m told), .str before]] = itemsD (l ++ [(nameOf m told, before)]) := by unfold itemsD; rw [List.map_append]; rfl
        rw [el]
        (with_reducible refine Ss.cons ?_; refine' S1.asL ?_ ?z3072hs); (case z3072hs => rfl); (with_reducible refine Ev.bin ?_; refine Ev.bin ?_; refine' Ev.loc ?z3075h ?_); (case z3075h => nest_cls); (with_reducible refine Ev.bin ?_; refine Ev.str ?_; refine Ev.bin ?_; refine' Ev.loc ?z3079h ?_); (case z3079h => nest_cls); (with_reducible refine Ev.int ?_; refine Op2.addI ?_)
        have hl1 : (Txt.mul " " ((m : Int) + 1)).length ≤ 1 * 177 := len_mul_leN (by decide) (by exact om_69 hm)
        have hl0 : (leadP bits ps 0 "").length ≤ 90000 := by have := hS.hr; rw [Array.length_toList] at this; exact this
        have hl2 : (leadP bits ps 0 "" ++ Txt.mul " " ((m : Int) + 1)).length ≤ 90177 := by rw [Str.len_app]; exact om_70 hl1 hl0
        have hsz : sizeLine = 16777216 := by decide
        refine Op2.mulS (mulOk_of 1 177 (by decide) (by exact om_69 hm) (by exact om_71 hm) (by decide) (by decide)) ?_
        refine Op2.addS (by rw [hsz]; exact om_72 hl1 hl0) ?_
        (with_reducible refine Ev.str ?_)
        refine Op2.addS (by rw [hsz]; show _ + 2 ≤ _; exact om_73 hl2) ?_
        (with_reducible refine put_5 ?_; refine Ss.cons ?_; refine' S1.asL ?_ ?z3090hs); (case z3090hs => rfl); (with_reducible refine Ev.bin ?_)
        refine' Ev.compM [(".0", none), ("size", none)] [] decF hh ?hp ?c1 ?c2 ?c3 ?c4 ?c5 ?c6 ?c7 ?_
        case hp => rfl
        case c1 => rfl
        case c2 => rfl
        case c3 => decide +kernel
        case c4 => decide +kernel
        case c5 => kernel_rfl
        case c6 => exact .nil
        case c7 => exact fun _ => rfl
        (with_reducible refine' Ev.loc ?z3092h ?_); (case z3092h => nest_cls); (with_reducible refine GetI.lst (fun _ => ?_))
        refine ⟨_, _, rfl, fun L d hd' => ?_, ?_, ?_⟩
        · obtain ⟨k, hk, rfl⟩ := List.mem_map.mp hd'
          intro O
          have hk' := hS.t2 k hk
          by_cases ck : decide (k > 1) = true
          · have ef : decF (.int k) = some (.int (k - 1)) := if_pos ck
            rw [ef]
            (with_reducible refine As.loc ?_; refine put_1 ?_; refine Ifs.one ?_; refine' Te.cmp ?_ ?z3098hm); (case z3098hm => rfl); (with_reducible refine' Ev.loc ?z3099h ?_); (case z3099h => nest_cls); (with_reducible refine Ev.int ?_; refine Op2.gtI ?_; refine Tr.bool ?_; refine ite_t (by with_reducible assumption) ?_; refine Ev.bin ?_; refine' Ev.loc ?z3105h ?_); (case z3105h => nest_cls); (with_reducible refine Ev.int ?_; refine Op2.subI ?_)
            exact ⟨⟨rfl, rfl⟩, rfl, .keep (.drop .nil)⟩
          · have ef : decF (.int k) = none := if_neg ck
            rw [ef]
            (with_reducible refine As.loc ?_; refine put_1 ?_; refine Ifs.one ?_; refine' Te.cmp ?_ ?z3112hm); (case z3112hm => rfl); (with_reducible refine' Ev.loc ?z3113h ?_); (case z3113h => nest_cls); (with_reducible refine Ev.int ?_; refine Op2.gtI ?_; refine Tr.bool ?_; refine ite_f (by with_reducible assumption) ?_)
            exact ⟨⟨rfl, rfl⟩, rfl, .keep (.drop .nil)⟩
        · rw [List.length_map]; have := hS.t1; unfold sizeLine; exact om_64 this
        rw [decF_eq]
        refine Ev.lst ?_
        (with_reducible refine' Evs.cons ?_ ?z3118he); (case z3118he => rfl); (with_reducible refine' Ev.attr ?_ ?z3119he); (case z3119he => rfl); (with_reducible refine' Ev.loc ?z3120h ?_); (case z3120h => nest_cls); (with_reducible refine' attr264 ?z3121ha ?z3121o ?_); (case z3121ha => first | with_reducible exact a_norm _ _ _ _ | with_reducible exact a_nt _ _ _ _ | with_reducible exact a_raw _ _ _ _ | with_reducible exact a_n _ _ _ _); (case z3121o => with_reducible exact ObjOf.frz); (with_reducible refine' fatS ?z3122h ?_); (case z3122h => kernel_rfl); (with_reducible refine' fatS ?z3123h ?_); (case z3123h => kernel_rfl); (with_reducible refine fat0 ?_; refine' hq ?z3125h ?_); (case z3125h => rfl); (with_reducible refine Evs.nil ?_; refine And.intro (Nat.le_of_ble_eq_true rfl) ?_)
        refine Op2.addL .frz .frz (by rw [List.length_map]; have h1 := hS.t1; have h2 : (decL told).length ≤ told.length := by { unfold decL; rw [List.length_map]; exact List.length_filter_le _ _ }; show _ + 1 ≤ _; rw [hsz]; exact om_74 h1 h2) ?_
        have en : (decL told).map D.int ++ [D.int (wsNt (leadP bits ps 0 ""))] = (nextP told (wsNt (leadP bits ps 0 ""))).map D.int := by unfold nextP; rw [List.map_append]; rfl
        rw [en]
        (with_reducible refine put0 ?_; refine Ss.nil ?_)
        refine ⟨(m + 1, nextP told (wsNt (leadP bits ps 0 "")), l ++ [(nameOf m told, before)], beforeOf (leadP bits ps 0 "") m, gs ++ [leadP bits ps 0 ""]), .keep (.keep (.keep (.keep (.keep (.keep (.drop (.drop (.drop (.drop (.drop (.drop .nil))))))))))), rfl, .refl, rfl, hP⟩
    · rintro ⟨m, ps, l, before, gs⟩ ⟨e, hP⟩
      dsimp only at e hP ⊢
      exfalso
      have hm : m < 177 := by
        cases hP with
        | stop a b c => exact a.hm
        | next a b c => exact a.hm
      rw [show 177 - m = (177 - (m + 1)) + 1 by exact om_63 hm] at e
      cases e
end
section
variable (w : World) (mg mb : Str → Option Value) (os : OsState)
noncomputable abbrev Γ3 (l : Addr) (o : Obj) : Gam := (Γ1 w mg mb os).more [(l, o)]
theorem b3_sum (l : Addr) (o : Obj) : Bui (Γ3 w mg mb os l o) "sum" (.builtin "sum") := ⟨by kernel_rfl, Boot.«sum», by decide +kernel, by decide +kernel⟩
theorem b3_range (l : Addr) (o : Obj) : Bui (Γ3 w mg mb os l o) "range" (.type "range") := ⟨by kernel_rfl, Boot.«range», by decide +kernel, by decide +kernel⟩
noncomputable def pickN (ns : List Int) (p : Int) : List Int := (sliceRange (sliceBounds (some p) none (some 3) ns.length).1 (sliceBounds (some p) none (some 3) ns.length).2.1 (sliceBounds (some p) none (some 3) ns.length).2.2).filterMap (ns[·]?)
noncomputable def sumN (ns : List Int) (p : Int) : Int := (pickN ns p).sum
theorem pickN_eq (ns : List Int) (p : Int) : pickD (ns.map D.int) (some p) none (some 3) = (pickN ns p).map D.int := by
  unfold pickD pickN
  rw [List.length_map, List.map_filterMap]
  congr 1
  funext i
  rw [List.getElem?_map]
noncomputable def sumD (ns : List Int) : D → Option D
  | .int p => some (.int (sumN ns p))
  | _ => none
noncomputable def rangeI : Int → Nat → List Int
  | _, 0 => []
  | a, m + 1 => a :: rangeI (a + 1) m
theorem rangeI_eq : ∀ (m : Nat) (a : Int), rangeFrom a 1 m = (rangeI a m).map D.int
  | 0, _ => rfl
  | m + 1, a => by show D.int a :: rangeFrom (a + 1) 1 m = _; rw [rangeI_eq m]; rfl
noncomputable def gAt (gs : List Str) (m : Nat) : Str := gs.getD m ""
noncomputable def eqG (a b : Str) : Bool := (wsC a == wsC b) && (wsB a == wsB b)
noncomputable def pickF (c : Nat → Bool) : D → Option D
  | .int k => if c k.toNat = true then some (.int k) else none
  | _ => none
noncomputable def natI (l : List Nat) : List Int := l.map fun (k : Nat) => (k : Int)
theorem fr_of {A : Around} {env : Env} (h : ∃ A₀ : Around, A₀.frames = some [] ∧ A = A₀.deeper env) : A.frames = some [env] := by
  obtain ⟨A₀, h1, h2⟩ := h
  rw [h2]; exact Around.frames_deeper h1
theorem pickF_from (c : Nat → Bool) : ∀ (n a : Nat), (rangeFrom (a : Int) 1 n).filterMap (pickF c) = (natI ((List.range' a n).filter c)).map D.int
  | 0, a => rfl
  | n + 1, a => by
    rw [List.range'_succ, List.filter_cons]
    show (D.int (a : Int) :: rangeFrom ((a : Int) + 1) 1 n).filterMap (pickF c) = _
    rw [List.filterMap_cons]
    have ih := pickF_from c n (a + 1)
    have e0 : ((a + 1 : Nat) : Int) = (a : Int) + 1 := rfl
    rw [e0] at ih
    by_cases h : c a = true
    · have e1 : pickF c (.int (a : Int)) = some (.int (a : Int)) := if_pos (by rw [Int.toNat_natCast]; exact h)
      rw [e1, if_pos h]
      exact congrArg _ ih
    · have e1 : pickF c (.int (a : Int)) = none := if_neg (by rw [Int.toNat_natCast]; exact h)
      rw [e1, if_neg h]
      exact ih
theorem pickF_eq (c : Nat → Bool) (n : Nat) : (rangeFrom 0 1 n).filterMap (pickF c) = (natI ((List.range n).filter c)).map D.int := by
  have := pickF_from c n 0
  rwa [← List.range_eq_range'] at this
noncomputable def kOf (cards : Int) : Int := maxI ((rangeI 1 5).filter fun s => decide (s * (s + 1) ≤ 2 * cards))
noncomputable def pickI (ns : List Int) (lo hi st : Option Int) : List Int := (sliceRange (sliceBounds lo hi st ns.length).1 (sliceBounds lo hi st ns.length).2.1 (sliceBounds lo hi st ns.length).2.2).filterMap (ns[·]?)
theorem pickI_eq (ns : List Int) (lo hi st : Option Int) : pickD (ns.map D.int) lo hi st = (pickI ns lo hi st).map D.int := by
  unfold pickD pickI
  rw [List.length_map, List.map_filterMap]
  congr 1
  funext i
  rw [List.getElem?_map]
noncomputable def revI (told : List Int) : List Int := pickI told none none (some (-1))
noncomputable def tallI (told : List Int) (k : Int) : List Int := revI told ++ List.replicate (k + 1 - ((revI told).length : Int)).toNat 0
noncomputable def moreI (told : List Int) (k : Int) : List Int := (List.range (tallI told k).length).map fun p => (tallI told k).getD p 0 + (p : Int) - k
noncomputable def tAt (tolds : List (List Int)) (m : Nat) : List Int := tolds.getD m []
noncomputable def rotI (d : Int) (e : List Int) : List Int := pickI e (some (-d)) none none ++ pickI e none (some (-d)) none
structure PileOk (raw : Str) (told : List Int) (k : Int) : Prop where
  c1 : (wsC raw).length ≤ 1000
  c2 : ∀ c ∈ wsC raw, 0 ≤ c ∧ c ≤ 1000
  c3 : pilesD (wsC raw) = told.map D.int
  t1 : told.length ≤ 1000
  r1 : (revI told).length ≤ 1000
  z0 : 0 < (tallI told k).length
  z1 : (tallI told k).length ≤ 1000
noncomputable def shareU (drawn : Int) : UInt64 := Float64.div (Float64.ofInt (drawn.fmod 4 + 1)) 4616189618054758400
noncomputable abbrev Tri := UInt64 × UInt64 × UInt64
noncomputable abbrev triD (t : Tri) : D := .tup [.flt t.1, .flt t.2.1, .flt t.2.2]
noncomputable def trAt (ts : List Tri) (i : Nat) : Tri := ts.getD i (0, 0, 0)
structure LightsOk (k lean : Int) (share : UInt64) (ex : List Int) (ts : List Tri) : Prop where
  len : (ts.length : Int) = k + 1
  exl : (ex.length : Int) = k + 1
  inf1 : ∀ i : Nat, i < ts.length → Float64.isInf (idiv (8 * (i : Int) + lean) (8 * (k + 1))) = false
  inf2 : ∀ i : Nat, i < ts.length → Float64.isInf (Float64.ofInt (k - (i : Int) + ex.getD i 0 + 1)) = false
  mkk : ∀ i : Nat, i < ts.length → hsvSpec (idiv (8 * (i : Int) + lean) (8 * (k + 1))) share (Float64.div (Float64.ofInt (k - (i : Int) + ex.getD i 0 + 1)) 4625196817309499392) = some (trAt ts i)
noncomputable def stepOf (k spot : Int) : Int := if (spot.fdiv 8 == k) = true then k else -1
structure LStep (k lean : Int) (share : UInt64) (t : Tri) (hv : Int) (t' : Tri) (y : Tri) (sp : Int) : Prop where
  r : rgbSpec t.1 t.2.1 t.2.2 = some y
  s : ftrunc (Float64.add (Float64.mul y.1 (Float64.ofInt (8 * (k + 1)))) 4602678819172646912) = some sp
  ts : (Float64.cmp y.2.1 share != some .eq) = false
  sl : ((sp.fmod (8 * (k + 1))).fmod 8 != lean) = false
  hv : ftrunc (Float64.mul y.2.2 (Float64.ofInt 16)) = some hv
  inf1 : Float64.isInf (idiv (sp.fmod (8 * (k + 1)) + 8) (8 * (k + 1))) = false
  inf2 : Float64.isInf (Float64.ofInt (stepOf k (sp.fmod (8 * (k + 1))))) = false
  mkk : hsvSpec (idiv (sp.fmod (8 * (k + 1)) + 8) (8 * (k + 1))) y.2.1 (Float64.add y.2.2 (Float64.div (Float64.ofInt (stepOf k (sp.fmod (8 * (k + 1))))) 4625196817309499392)) = some t'
inductive LSteps (k lean : Int) (share : UInt64) : List Tri → List Int → List Tri → Prop
  | nil : LSteps k lean share [] [] []
  | cons {t t' y : Tri} {sp hv : Int} {ts ts' : List Tri} {hs : List Int} : LStep k lean share t hv t' y sp → LSteps k lean share ts hs ts' → LSteps k lean share (t :: ts) ((hv - 1) :: hs) (t' :: ts')
noncomputable def tallOnly (hs : List Int) : List Int := hs.filter fun h => decide (h > 0)
inductive Wheel (k lean bits : Int) (share : UInt64) (gs : List Str) (turn first : Nat) : Nat → List Tri → Prop
  | stop {ts : List Tri} : Wheel k lean bits share gs turn first (turn + 1) ts
  | next {m : Nat} {ts ts' : List Tri} {hs : List Int} : m ≤ turn → LSteps k lean share ts hs ts' → ts.length ≤ 100 → (tallOnly hs).length ≤ 100 → (∀ p ∈ tallOnly hs, 0 ≤ p ∧ p ≤ 400) → (leadP bits (tallOnly hs) 0 "").cps.toList.length ≤ 90000 →
      (List.range turn).filter (fun e => eqG (gAt gs e) (leadP bits (tallOnly hs) 0 "")) = [if m < turn then m else first] → Wheel k lean bits share gs turn first (m + 1) ts' → Wheel k lean bits share gs turn first m ts
structure LF1 (cards drawn cutb : Int) (gs : List Str) (l : List (Str × Str)) (u : Str) (first : Nat) (nm : Str) (k : Int) (tolds : List (List Int)) (ts0 : List Tri) : Prop where
  play : Play (drawn.fdiv 32) 0 (cutL cutb (cards - 1).toNat 1 [] 1) [] "" [] gs l u
  t1 : l.length ≤ 177
  t2 : first < l.length
  gl : gs.length = l.length + 1
  lu : u.cps.toList.length ≤ 90000
  wb : wsB u = first
  q1 : (List.range l.length).filter (fun m => eqG (gAt gs m) (gAt gs l.length)) = [first]
  nmI : l[first]? = some (nm, u)
  ok1 : ∀ p ∈ l, PyData.strOk p.1 = true ∧ PyData.strOk p.2 = true
  l1 : ∀ p ∈ l, (lowered p.1).length ≤ sizeLine
  a1 : noHit codeN nm = true
  z1 : (uppered nm).length ≤ sizeLine
  a2 : okName (uppered nm) = true
  a3 : getGo (uppered nm) (l ++ [(nm, ("x" : Str))]) = .str u
  q2 : (List.range l.length).filter (fun m => eqG (gAt gs m) u || (wsN (gAt gs m) - wsNt (gAt gs m) != cards)) = []
  hk : kOf cards = k
  k1 : 1 ≤ k
  k5 : k ≤ 5
  q3 : ∀ m, m < l.length → PileOk (gAt gs m) (tAt tolds m) k
  q4 : (List.range l.length).filter (fun m => decide (minI (moreI (tAt tolds m) k) ≥ 0) && decide (maxI (moreI (tAt tolds m) k) ≤ 1)) = List.range' first (l.length - first)
  q5 : minI ((rangeI 1 (k + 1).toNat).filter fun d => rotI d (moreI (tAt tolds first) k) == moreI (tAt tolds first) k) = (l.length : Int) - first
  q5n : 0 < ((rangeI 1 (k + 1).toNat).filter fun d => rotI d (moreI (tAt tolds first) k) == moreI (tAt tolds first) k).length
  q6 : ((maxI (moreI (tAt tolds first) k) == 0) && decide ((first : Int) > k * k - k)) = false
  q7 : ∀ d ∈ rangeI 1 (k + 1).toNat, (pickI (moreI (tAt tolds first) k) (some (-d)) none none).length ≤ 1000 ∧ (pickI (moreI (tAt tolds first) k) none (some (-d)) none).length ≤ 1000
  lt : LightsOk k ((drawn.fdiv 4).fmod 8) (shareU drawn) (moreI (tAt tolds first) k) ts0
  wh : Wheel k ((drawn.fdiv 4).fmod 8) (drawn.fdiv 32) (shareU drawn) gs l.length first first ts0
  a4 : getGo "z" (l ++ [(nm, ("x" : Str))]) = .none
theorem sh_inf {q : Int} (h0 : 0 ≤ q) (h1 : q < 4) : Float64.isInf (Float64.ofInt (q + 1)) = false := by
  have : q = 0 ∨ q = 1 ∨ q = 2 ∨ q = 3 := by exact om_75 h0 h1
  rcases this with h | h | h | h <;> subst h <;> decide +kernel
theorem fmod_in {a b : Int} (hb : 0 < b) : 0 ≤ a.fmod b ∧ a.fmod b < b := by
  rw [Int.fmod_eq_emod_of_nonneg _ (Int.le_of_lt hb)]
  exact ⟨Int.emod_nonneg _ (by exact om_76 hb), Int.emod_lt_of_pos _ hb⟩
section
variable {Γ : Gam} {A : Around} {O : Own}
theorem eqv_intL (l m : List Int) : PyData.eqv (.list (l.map .int)) (.list (m.map .int)) = (l == m) := by
  simp only [PyData.eqv]; exact eqvAll_ints l m
theorem Op2.neIL {l m : List Int} {Q : D → Own → Prop} (hu : A.units + 64 < cLine) (q : Q (.bool (!(l == m))) O) : Op2 Γ A O (compareOp .NotEq) (.lst (l.map .int)) (.lst (m.map .int)) Q :=
  Op2.neD (toPy_ints l) (toPy_ints m) (shaped_ints l) (shaped_ints m) hu (by rw [eqv_intL]; exact q)
theorem Op2.eqIL {l m : List Int} {Q : D → Own → Prop} (hu : A.units + 64 < cLine) (q : Q (.bool (l == m)) O) : Op2 Γ A O (compareOp .Eq) (.lst (l.map .int)) (.lst (m.map .int)) Q :=
  Op2.eqD (toPy_ints l) (toPy_ints m) (shaped_ints l) (shaped_ints m) hu (by rw [eqv_intL]; exact q)
theorem gs_at {gs : List Str} {m : Nat} (h : m < gs.length) : (gs.map guyD)[((m : Nat) : Int).toNat]? = some (guyD (gAt gs m)) := by
  rw [Int.toNat_natCast, List.getElem?_map, List.getElem?_eq_getElem h]
  unfold gAt
  rw [List.getD_eq_getElem?_getD, List.getElem?_eq_getElem h]; rfl
theorem eq_ca {w : World} {mg mb : Str → Option Value} {os : OsState} {a b : Str} {Q : D → Own → Prop} (r : Room A 1) (q : Q (.bool (eqG a b)) O) : Ca (Γ1 w mg mb os) A O (.ref 240) [guyD a, guyD b] [] Q :=
  Cal.ca (Cal.pure (c_equal w mg mb os a b _ _ _ _ _ _ _ _ _ _) fun d O' h => ⟨h.1, by rw [h.2]; exact q⟩) r
end
theorem Ss.same {Γ : Gam} {A : Around} {env : Env} {ρ κ : Rho} {O : Own} {st : Stmt} {rest : List Stmt} {Q : Fl → Rho → Rho → Own → Prop} (W : Own) (h : S1 Γ A env ρ κ O st (KStp ρ κ W)) (h2 : Ss Γ A env ρ κ W rest Q) : Ss Γ A env ρ κ O (st :: rest) Q := Ss.step ρ κ W h h2
theorem pickF_pos {c : Nat → Bool} {i : Nat} (h : c i = true) : pickF c (.int (i : Int)) = some (.int (i : Int)) := if_pos (by rw [Int.toNat_natCast]; exact h)
theorem pickF_neg {c : Nat → Bool} {i : Nat} (h : ¬ c i = true) : pickF c (.int (i : Int)) = none := if_neg (by rw [Int.toNat_natCast]; exact h)
theorem pickF_rng (c : Nat → Bool) (n : Nat) : (rangeFrom 0 1 (((n : Nat) : Int) - 0).toNat).filterMap (pickF c) = (natI ((List.range n).filter c)).map D.int := by
  rw [Int.sub_zero, Int.toNat_natCast, pickF_eq]
section
variable {Γ : Gam} {A : Around} {O : Own}
noncomputable abbrev itP (p : Str × Str) : PyData := .tuple [.str p.1, .str p.2]
theorem toPy_its (l : List (Str × Str)) : toPy (.lst (itemsD l)) = some (.list (l.map itP)) := by
  unfold itemsD
  simp only [toPy, toPyL_map (fun p : Str × Str => D.tup [.str p.1, .str p.2]) itP (fun p => by simp [toPy, toPyL]) l, Option.map_some]
theorem shaped_its {l : List (Str × Str)} (h : ∀ p ∈ l, PyData.strOk p.1 = true ∧ PyData.strOk p.2 = true) : SeqAt.shaped (.list (l.map itP)) = true := by
  have h1 : PyData.canLayAll0 (l.map itP) = true := by
    induction l with
    | nil => simp [PyData.canLayAll0]
    | cons p l ih =>
      obtain ⟨h1, h2⟩ := h _ (.head _)
      rw [List.map_cons]
      simp only [PyData.canLayAll0, PyData.canLay0, h1, h2, Bool.true_and, Bool.and_true]
      exact ih fun p hp => h p (.tail _ hp)
  have h2 : PyData.depthAll (l.map itP) ≤ 8 := depthAll_map itP (fun a => by simp [PyData.depth, PyData.depthAll]) l
  unfold SeqAt.shaped
  simp only [PyData.canLay0, PyData.depth, h1, Bool.true_and]
  exact decide_eq_true (by exact om_77 h2)
theorem Op2.neIt {l m : List (Str × Str)} {Q : D → Own → Prop} (e : l = m) (hs : ∀ p ∈ l, PyData.strOk p.1 = true ∧ PyData.strOk p.2 = true) (hu : A.units + 64 < cLine) (q : Q (.bool false) O) : Op2 Γ A O (compareOp .NotEq) (.lst (itemsD l)) (.lst (itemsD m)) Q := by
  subst e
  refine Op2.neD (toPy_its l) (toPy_its l) (shaped_its hs) (shaped_its hs) hu ?_
  have : PyData.eqv (.list (l.map itP)) (.list (l.map itP)) = true := by
    simp only [PyData.eqv]; exact eqvAll_self _ (fun a => by simp [PyData.eqv, PyData.eqvAll]) l
  rw [this]; exact q
theorem it_at {l : List (Str × Str)} {i : Nat} {a b : Str} (h : l[i]? = some (a, b)) : (itemsD l)[((i : Nat) : Int).toNat]? = some (.tup [.str a, .str b]) := by
  unfold itemsD
  rw [Int.toNat_natCast, List.getElem?_map, h]; rfl
end
noncomputable def signOf (drawn : Int) : Str := ⟨#[(if decide (drawn.fmod 33 < 32) = true then drawn.fmod 33 else 127).toNat]⟩
noncomputable def sgS (n : Nat) : Str := ⟨#[if n < 32 then n else 127]⟩
noncomputable def sgFact (n : Nat) : Bool := decide ((lowered ("z" ++ sgS n)).length ≤ 10) && isHit codeN (lowered ("z" ++ sgS n)) && (if (sgS n == "\t") = true then noHit codeV (sgS n) else isHit codeV (sgS n)) && PyData.strOk (sgS n)
theorem sgFacts : (List.range 33).all sgFact = true := by decide +kernel
theorem signOf_eq (drawn : Int) : ∃ n, n < 33 ∧ signOf drawn = sgS n := by
  have h := fmod_in (a := drawn) (b := 33) (by decide)
  refine ⟨(drawn.fmod 33).toNat, by exact om_78 h, ?_⟩
  unfold signOf sgS
  by_cases c : drawn.fmod 33 < 32
  · rw [if_pos (decide_eq_true c), if_pos (by exact om_79 h c)]
  · rw [if_neg (by rw [decide_eq_true_eq]; exact c), if_neg (by exact om_80 h c)]; rfl
structure SignOk (s : Str) : Prop where
  h0 : (lowered ("z" ++ s)).length ≤ sizeLine
  h1 : isHit codeN (lowered ("z" ++ s)) = true
  h2 : (s == "\t") = true → noHit codeV s = true
  h3 : (s == "\t") = false → isHit codeV s = true
  h4 : PyData.strOk s = true
  h5 : s.length = 1
theorem signOk (drawn : Int) : SignOk (signOf drawn) := by
  obtain ⟨n, hn, e⟩ := signOf_eq drawn
  rw [e]
  have h := List.all_eq_true.mp sgFacts n (List.mem_range.mpr hn)
  unfold sgFact at h
  simp only [Bool.and_eq_true, decide_eq_true_eq] at h
  obtain ⟨⟨⟨h0, h1⟩, h2⟩, h4⟩ := h
  refine ⟨Nat.le_trans h0 (by decide), h1, fun c => ?_, fun c => ?_, h4, rfl⟩
  · rw [if_pos c] at h2; exact h2
  · rw [if_neg (by rw [c]; decide)] at h2; exact h2
noncomputable def lateL (nm s : Str) : List (Str × Str) := if (s == "\t") = true then [(nm, "x"), ("z", s)] else [(nm, "x")]
theorem lateL_len (nm s : Str) : (lateL nm s).length ≤ 2 := by
  unfold lateL
  split
  · exact Nat.le_refl 2
  · exact Nat.le_succ 1
theorem filterMap_ints (f : D → Option D) (c : Int → Bool) (h : ∀ d, f (.int d) = if c d = true then some (.int d) else none) : ∀ l : List Int, (l.map D.int).filterMap f = (l.filter c).map D.int
  | [] => rfl
  | a :: l => by
    rw [List.map_cons, List.filterMap_cons, List.filter_cons, h]
    cases c a <;> simp [filterMap_ints f c h l]
noncomputable def intF (c : Int → Bool) : D → Option D
  | .int s => if c s = true then some (.int s) else none
  | _ => none
theorem intF_pos {c : Int → Bool} {s : Int} (h : c s = true) : intF c (.int s) = some (.int s) := if_pos h
theorem intF_neg {c : Int → Bool} {s : Int} (h : ¬ c s = true) : intF c (.int s) = none := if_neg h
theorem intF_eq (c : Int → Bool) (l : List Int) : (l.map D.int).filterMap (intF c) = (l.filter c).map D.int := filterMap_ints _ _ (fun _ => rfl) _
noncomputable def placeF (told : List Int) (k : Int) : D → Option D
  | .int p => some (.int ((tallI told k).getD p.toNat 0 + p - k))
  | _ => none
theorem placeF_from (told : List Int) (k : Int) : ∀ (n a : Nat), (rangeFrom (a : Int) 1 n).filterMap (placeF told k) = ((List.range' a n).map fun p => (tallI told k).getD p 0 + (p : Int) - k).map D.int
  | 0, a => rfl
  | n + 1, a => by
    rw [List.range'_succ, List.map_cons, List.map_cons]
    show (D.int (a : Int) :: rangeFrom ((a : Int) + 1) 1 n).filterMap (placeF told k) = _
    have e0 : ((a + 1 : Nat) : Int) = (a : Int) + 1 := rfl
    have ih := placeF_from told k n (a + 1)
    rw [e0] at ih
    rw [List.filterMap_cons]
    show D.int ((tallI told k).getD ((a : Int)).toNat 0 + (a : Int) - k) :: _ = _
    rw [ih, Int.toNat_natCast]
theorem placeF_eq (told : List Int) (k : Int) : (rangeFrom 0 1 ((((tallI told k).length : Nat) : Int) - 0).toNat).filterMap (placeF told k) = (moreI told k).map D.int := by
  rw [Int.sub_zero, Int.toNat_natCast]
  have := placeF_from told k (tallI told k).length 0
  rwa [← List.range_eq_range'] at this
theorem kOf_ne {cards : Int} (h : 1 ≤ cards) : 0 < ((rangeI 1 5).filter fun s => decide (s * (s + 1) ≤ 2 * cards)).length := by
  rw [show rangeI 1 5 = [1, 2, 3, 4, 5] from rfl, List.filter_cons, if_pos (decide_eq_true (by exact om_81 h))]
  exact Nat.succ_pos _
noncomputable def tallO (tolds : List (List Int)) (k : Int) : Nat → Option D
  | 0 => none
  | m + 1 => some (.lst ((tallI (tAt tolds m) k).map D.int))
noncomputable def moreDs (tolds : List (List Int)) (k : Int) (m : Nat) : List D := (List.range m).map fun i => D.lst ((moreI (tAt tolds i) k).map D.int)
theorem moreDs_succ (tolds : List (List Int)) (k : Int) (m : Nat) : moreDs tolds k m ++ [D.lst ((moreI (tAt tolds m) k).map D.int)] = moreDs tolds k (m + 1) := by
  unfold moreDs
  rw [List.range_succ, List.map_append]; rfl
theorem natI_from : ∀ (n a : Nat), rangeFrom (a : Int) 1 n = (natI (List.range' a n)).map D.int
  | 0, a => rfl
  | n + 1, a => by
    rw [List.range'_succ]
    show D.int (a : Int) :: rangeFrom ((a : Int) + 1) 1 n = _
    have e0 : ((a + 1 : Nat) : Int) = (a : Int) + 1 := rfl
    have ih := natI_from n (a + 1)
    rw [e0] at ih
    rw [ih]; rfl
theorem more_at {tolds : List (List Int)} {k : Int} {n i : Nat} (h : i < n) : (moreDs tolds k n)[((i : Nat) : Int).toNat]? = some (.lst ((moreI (tAt tolds i) k).map D.int)) := by
  unfold moreDs
  rw [Int.toNat_natCast, List.getElem?_map, List.getElem?_range h]; rfl
theorem moreDs_len (tolds : List (List Int)) (k : Int) (n : Nat) : (moreDs tolds k n).length = n := by unfold moreDs; rw [List.length_map, List.length_range]
theorem moreI_len (told : List Int) (k : Int) : (moreI told k).length = (tallI told k).length := by unfold moreI; rw [List.length_map, List.length_range]
theorem mem_rangeI : ∀ {n : Nat} {a : Int} {i : Nat}, i < n → a + (i : Int) ∈ rangeI a n
  | 0, a, i, h => absurd h (Nat.not_lt_zero _)
  | n + 1, a, 0, h => by
    show a + ((0 : Nat) : Int) ∈ a :: rangeI (a + 1) n
    rw [show a + ((0 : Nat) : Int) = a from Int.add_zero a]
    exact .head _
  | n + 1, a, i + 1, h => by
    show a + ((i + 1 : Nat) : Int) ∈ a :: rangeI (a + 1) n
    have e : a + ((i + 1 : Nat) : Int) = a + 1 + (i : Int) := by exact om_82
    rw [e]
    exact .tail _ (mem_rangeI (Nat.lt_of_succ_lt_succ h))
noncomputable def lightF (ts : List Tri) : D → Option D
  | .int p => some (triD (trAt ts p.toNat))
  | _ => none
theorem lightF_eq (ts : List Tri) {n : Nat} (h : ts.length = n) : (rangeFrom 0 1 n).filterMap (lightF ts) = ts.map triD := by
  have key : ∀ (m a : Nat), a + m = ts.length → (rangeFrom (a : Int) 1 m).filterMap (lightF ts) = (ts.drop a).map triD := by
    intro m
    induction m with
    | zero => intro a h; rw [List.drop_eq_nil_of_le (by exact om_83 ‹_› h)]; rfl
    | succ m ih =>
      intro a h
      have ha : a < ts.length := by exact om_84 ‹_› h
      rw [List.drop_eq_getElem_cons ha, List.map_cons]
      show (D.int (a : Int) :: rangeFrom ((a : Int) + 1) 1 m).filterMap (lightF ts) = _
      have e0 : ((a + 1 : Nat) : Int) = (a : Int) + 1 := rfl
      have ih' := ih (a + 1) (by exact om_85 ‹_› h)
      rw [e0] at ih'
      rw [List.filterMap_cons]
      show triD (trAt ts ((a : Int)).toNat) :: _ = _
      rw [ih', Int.toNat_natCast]
      unfold trAt
      rw [List.getD_eq_getElem?_getD, List.getElem?_eq_getElem ha]; rfl
  have := key n 0 (by exact om_86 h)
  simpa using this
theorem LSteps_len {k lean : Int} {share : UInt64} {ts ts' : List Tri} {hs : List Int} (h : LSteps k lean share ts hs ts') : hs.length = ts.length := by
  induction h with
  | nil => rfl
  | cons _ _ ih => rw [List.length_cons, List.length_cons, ih]
theorem ck_cons {env : Env} {sc : Scope} {cl : List (Str × Addr)} {κ r : Rho} {p : Str × Option D} (h1 : p ∈ κ) (h2 : sc.names.lookup p.1 = some .cell ∨ sc.names.lookup p.1 = some .free) (h3 : cl.lookup p.1 = env.cells.lookup p.1) (hn : (r.map (·.1)).contains p.1 = false) (h : CK env sc cl κ r) : CK env sc cl κ (p :: r) :=
  .cons h1 h2 h3 (fun q hq e => by
    have h5 : (r.map (·.1)).contains p.1 = true := List.contains_iff_mem.mpr (e ▸ List.mem_map_of_mem (f := (·.1)) hq)
    rw [hn] at h5; cases h5) h
theorem ite_ev {Γ : Gam} {A : Around} {env : Env} {ρ κ : Rho} {O : Own} {c : Prop} [Decidable c] {d1 d2 d : D} {e1 e2 : Expr} {Q : D → Own → Prop} (hc : (if c then d1 else d2) = d)
    (h1 : ∀ Q : D → Own → Prop, Q d1 O → Ev Γ A env ρ κ O e1 Q) (h2 : ∀ Q : D → Own → Prop, Q d2 O → Ev Γ A env ρ κ O e2 Q) (q : Q d O) : if c then Ev Γ A env ρ κ O e1 Q else Ev Γ A env ρ κ O e2 Q := by
  subst hc
  by_cases h : c
  · rw [if_pos h] at q ⊢; exact h1 Q q
  · rw [if_neg h] at q ⊢; exact h2 Q q
theorem c_law (l : Addr) (o : Obj) (vs : Array Value) (kk : Nat) (ns : List Int) (hk : (Γ3 w mg mb os l o).K.lookup l = some o) (hc : o.cls = .type "list") (hd : o.data = .seq vs kk) (hi : IntsAre vs.toList ns) (hz : ns.length ≤ 63)
    (plain : ∀ cards drawn cutb : Int, 1 ≤ cards → cards ≤ 15 → 0 ≤ drawn → drawn < 1048576 → 0 ≤ cutb → cutb < 32768 → ∃ gs tl u first nm k tolds ts0, LF1 cards drawn cutb gs tl u first nm k tolds ts0) :
    CalP (fun A => A.frames = some []) (Γ3 w mg mb os l o) 7 (.ref 304) [.v (.ref l)] [] [] fun d O' => d = .bool true := by
  refine CalP.intro (params := ["script"]) (fun bds O₁ => bds = [.v (.ref l)] ∧ O₁ = []) rfl (by kernel_rfl) rfl ⟨rfl, rfl, rfl, rfl, rfl, rfl⟩
    (fun A g s vs ks ok iv ik => ?_) (by decide +kernel) (by decide +kernel) (by decide +kernel) (by decide +kernel) fun A L bds O₁ ρ κ hA room ⟨e1, e2⟩ hρ hκ => ?_
  · obtain ⟨x, rfl, i⟩ := iv.one
    cases ik
    refine bind_eq (t := pure [(("script" : Str), x)]) (by kernel_rfl) ?_
    exact wpAny_pure ⟨g, [], [x], _, rfl, .refl ok, .cons i .nil, rfl, rfl⟩
  · subst e1 e2
    have hh := room.h
    have hA1 := fr_of hA
    have hρ' : ([("sums", none), ("drawn", none), ("table", none), ("played", none), ("laid", none), ("found", none), ("first", none), ("move", none), ("sign", none), ("late", none), ("lights", none), ("made", none), ("heights", none), ("red", none), ("green", none), ("blue", none), ("hue", none), ("told", none), ("value", none), ("spot", none), ("step", none)] : Rho) = ρ := by rw [← hρ]; kernel_rfl
    have hκ' : ([("script", some (.v (.ref l))), ("cards", none), ("share", none), ("lean", none), ("guys", none), ("turn", none), ("line", none), ("k", none), ("more", none), ("tall", none), ("extra", none), ("ring", none), ("wheel", none)] : Rho) = κ := by rw [← hκ]; kernel_rfl
    subst hρ' hκ'
    clear hρ hκ
    refine Ss.cons ?_
    refine' S1.asCompM [(".0", none), ("place", none)] [("script", some (.v (.ref l)))] (sumD ns) hh ?hp ?hsw ?c1 ?c2 ?c3 ?c4 ?c5 ?c6 ?c7 ?_
    case hp => rfl
    case hsw => rfl
    case c1 => rfl
    case c2 => rfl
    case c3 => decide +kernel
    case c4 => decide +kernel
    case c5 => kernel_rfl
    case c6 => repeat (first | exact .nil | refine ck_cons (by nest_cls) (.inl (by kernel_rfl)) (by kernel_rfl) (by kernel_rfl) ?_)
    case c7 => exact fun _ => rfl
    refine' Ev.call ?_ ?hp2
    case hp2 => intro _; rfl
    refine' Ev.bui (b3_range w mg mb os l o) ?_ ?hx
    case hx => kernel_rfl
    refine ⟨_, rfl, Kp.typ, ?_⟩
    (with_reducible refine' Evs.cons ?_ ?z1he); (case z1he => rfl); (with_reducible refine Ev.int ?_; refine Evs.nil ?_; refine Ca.range1 ?_; refine' getI_range ?z5h ?z5k (fun _ => ?_)); (case z5h => decide); (case z5k => decide)
    refine ⟨_, _, rfl, fun L d hd' => ?_, by decide, ?_⟩
    · obtain ⟨p, hp, rfl⟩ := mem_rangeFrom1 hd'
      intro O
      show As _ _ _ _ _ _ _ (D.int (0 + (p : Int))) _
      have e : sumD ns (.int (0 + (p : Int))) = some (.int (sumN ns (0 + p))) := rfl
      rw [e]
      (with_reducible refine As.loc ?_; refine put_1 ?_; refine Ifs.nil ?_; refine ite_t rfl ?_)
      refine' Ev.call ?_ ?hp3
      case hp3 => intro _; rfl
      refine' Ev.bui (b3_sum w mg mb os l o) ?_ ?hx
      case hx => kernel_rfl
      refine ⟨_, rfl, Kp.bui, ?_⟩
      (with_reducible refine' Evs.cons ?_ ?z11he); (case z11he => rfl); (with_reducible refine Ev.sub ?_; refine' Ev.cel ?z13h ?_); (case z13h => nest_cls); (with_reducible refine Ev.slice ?_; refine EvP.some ?_; refine' Ev.loc ?z16h ?_); (case z16h => nest_cls); (with_reducible refine ⟨_, rfl, ?_⟩; refine EvP.none ?_; refine EvP.some ?_; refine Ev.int ?_; refine ⟨_, rfl, ?_⟩)
      have hz2 : ns.length ≤ sizeLine := Nat.le_trans hz (by decide)
      refine Op2.sliceK hk hc hd hi (by decide) hz2 ?_ (fun _ _ => ⟨_, rfl⟩)
      rw [pickN_eq]
      (with_reducible refine Evs.nil ?_)
      refine Ca.sum hh .frz ?_
      exact ⟨⟨rfl, rfl⟩, rfl, .keep (.drop .nil)⟩
    have e3 : (rangeFrom 0 1 (3 - 0 : Int).toNat).filterMap (sumD ns) = [.int (sumN ns 0), .int (sumN ns 1), .int (sumN ns 2)] := rfl
    rw [e3]
    generalize sumN ns 0 = sa
    generalize sumN ns 1 = sb
    generalize sumN ns 2 = sc
    (with_reducible refine put0 ?_)
    refine Exs.tr ?_
    have hu : A.units + 64 < cLine := by have := room.u; exact om_87 this
    (with_reducible refine Ss.cons ?_; refine' S1.asC ?_ ?z25hl ?z25hf ?z25hs); (case z25hl => kernel_rfl); (case z25hf => rfl); (case z25hs => rfl); (with_reducible refine Ev.bin ?_; refine Ev.bin ?_; refine Ev.bin ?_; refine Ev.sub ?_; refine' Ev.loc ?z30h ?_); (case z30h => nest_cls); (with_reducible refine Ev.int ?_; refine' Op2.itemL ?z32l ?z32a ?z32b ?z32d ?_ ?z32hs); (case z32l => first | with_reducible exact LstOf.frz | ((with_reducible refine' LstOf.own ?z32hm); (case z32hm => nest_cls))); (case z32a => decide); (case z32b => decide); (case z32d => first | with_reducible assumption | rfl); (case z32hs => intros; rfl); (with_reducible refine Ev.int ?_; refine Op2.addI ?_; refine Ev.int ?_; refine' Op2.modI ?z36h ?_); (case z36h => decide); (with_reducible refine Ev.int ?_; refine Op2.addI ?_; refine put_1 ?_; refine Ss.cons ?_; refine' S1.asL ?_ ?z42hs); (case z42hs => rfl); (with_reducible refine Ev.bin ?_; refine Ev.bin ?_; refine Ev.sub ?_; refine' Ev.loc ?z46h ?_); (case z46h => nest_cls); (with_reducible refine Ev.int ?_; refine' Op2.itemL ?z48l ?z48a ?z48b ?z48d ?_ ?z48hs); (case z48l => first | with_reducible exact LstOf.frz | ((with_reducible refine' LstOf.own ?z48hm); (case z48hm => nest_cls))); (case z48a => decide); (case z48b => decide); (case z48d => first | with_reducible assumption | rfl); (case z48hs => intros; rfl); (with_reducible refine Ev.int ?_; refine Op2.addI ?_; refine Ev.bin ?_; refine Ev.int ?_; refine Ev.int ?_)
    refine Op2.powI (by decide) (by decide) ?_
    have h20 : ((2 : Int) ^ (20 : Int).toNat) ≠ 0 := by decide
    (with_reducible refine' Op2.modI ?z54h ?_); (case z54h => with_reducible assumption)
    have hcd := fmod_in (a := sa + 9) (b := 15) (by decide)
    have hdr : 0 ≤ (sc + 997).fmod (2 ^ (20 : Int).toNat) ∧ (sc + 997).fmod (2 ^ (20 : Int).toNat) < 1048576 := fmod_in (by decide)
    generalize ec : (sa + 9).fmod 15 + 1 = cards
    have hc0 : 1 ≤ cards := by exact om_88 hcd ec
    have hc1 : cards ≤ 15 := by exact om_89 hcd ec
    clear ec hcd
    generalize (sc + 997).fmod (2 ^ (20 : Int).toNat) = drawn at hdr ⊢
    obtain ⟨hd0, hd1⟩ := hdr
    have hsh := fmod_in (a := drawn) (b := 4) (by decide)
    (with_reducible refine put_1 ?_; refine Ss.cons ?_; refine' S1.asC ?_ ?z58hl ?z58hf ?z58hs); (case z58hl => kernel_rfl); (case z58hf => rfl); (case z58hs => rfl); (with_reducible refine Ev.bin ?_; refine Ev.bin ?_; refine Ev.bin ?_; refine' Ev.loc ?z62h ?_); (case z62h => nest_cls); (with_reducible refine Ev.int ?_; refine' Op2.modI ?z64h ?_); (case z64h => decide); (with_reducible refine Ev.int ?_; refine Op2.addI ?_; refine Ev.flt ?_)
    refine Op2.divIF (sh_inf hsh.1 hsh.2) (by decide +kernel) ?_
    generalize hshU : Float64.div (Float64.ofInt (drawn.fmod 4 + 1)) 4616189618054758400 = share
    (with_reducible refine put_2 ?_; refine Ss.cons ?_; refine' S1.asC ?_ ?z72hl ?z72hf ?z72hs); (case z72hl => kernel_rfl); (case z72hf => rfl); (case z72hs => rfl); (with_reducible refine Ev.bin ?_; refine Ev.bin ?_; refine' Ev.loc ?z75h ?_); (case z75h => nest_cls); (with_reducible refine Ev.int ?_; refine' Op2.fdivI ?z77h ?z77k ?_); (case z77h => decide); (case z77k => decide); (with_reducible refine Ev.int ?_; refine' Op2.modI ?z79h ?_); (case z79h => decide); (with_reducible refine put_3 ?_; refine Ss.cons ?_; refine' S1.asL ?_ ?z85hs); (case z85hs => rfl); (with_reducible refine' Ev.call ?_ ?z86hp); (case z86hp => intro _; rfl); (with_reducible refine' Ev.glo ?z87h ?_ ?z87hx); (case z87h => with_reducible exact n_Headers _ _ _ _); (case z87hx => kernel_rfl); (with_reducible refine' ⟨_, rfl, ?z88k, ?_⟩); (case z88k => with_reducible exact k_184 _ _ _ _); (with_reducible refine Evs.nil ?_)
    have room5 := room.less (k := 5) (by decide)
    have room4 := room.less (k := 4) (by decide)
    have room3 := room.less (k := 3) (by decide)
    have room2 := room.less (k := 2) (by decide)
    have room1 := room.less (k := 1) (by decide)
    refine Ca.make (n := 2) room3 (mk_184 w mg mb os) (m_76 w mg mb os) (ty_76 w mg mb os) fun x dx => ?_
    refine Cal.mono (c_hinit w mg mb os x dx) fun d O' ⟨he, la, hos⟩ => ⟨he, _, [(la, .list [])], hos, ?_⟩
    clear hos he
    (with_reducible refine put_2 ?_; refine Ss.cons ?_; refine' S1.asL ?_ ?z94hs); (case z94hs => rfl); (with_reducible refine' Ev.call ?_ ?z95hp); (case z95hp => intro _; rfl); (with_reducible refine' Ev.glo ?z96h ?_ ?z96hx); (case z96h => with_reducible exact n__law_play _ _ _ _); (case z96hx => kernel_rfl); (with_reducible refine' ⟨_, rfl, ?z97k, ?_⟩); (case z97k => with_reducible exact k_292 _ _ _ _); (with_reducible refine' Evs.cons ?_ ?z98he); (case z98he => rfl); (with_reducible refine' Ev.call ?_ ?z99hp); (case z99hp => intro _; rfl); (with_reducible refine' Ev.glo ?z100h ?_ ?z100hx); (case z100h => with_reducible exact n__law_cut _ _ _ _); (case z100hx => kernel_rfl); (with_reducible refine' ⟨_, rfl, ?z101k, ?_⟩); (case z101k => with_reducible exact k_275 _ _ _ _); (with_reducible refine' Evs.cons ?_ ?z102he); (case z102he => rfl); (with_reducible refine' Ev.cel ?z103h ?_); (case z103h => nest_cls); (with_reducible refine' Evs.cons ?_ ?z104he); (case z104he => rfl); (with_reducible refine Ev.bin ?_; refine Ev.bin ?_; refine Ev.sub ?_; refine' Ev.loc ?z108h ?_); (case z108h => nest_cls); (with_reducible refine Ev.int ?_; refine' Op2.itemL ?z110l ?z110a ?z110b ?z110d ?_ ?z110hs); (case z110l => first | with_reducible exact LstOf.frz | ((with_reducible refine' LstOf.own ?z110hm); (case z110hm => nest_cls))); (case z110a => decide); (case z110b => decide); (case z110d => first | with_reducible assumption | rfl); (case z110hs => intros; rfl); (with_reducible refine Ev.int ?_; refine Op2.addI ?_; refine Ev.bin ?_; refine Ev.int ?_; refine Ev.int ?_)
    refine Op2.powI (by decide) (by decide) ?_
    have h15 : ((2 : Int) ^ (15 : Int).toNat) ≠ 0 := by decide
    (with_reducible refine' Op2.modI ?z116h ?_); (case z116h => with_reducible assumption)
    have hcb : 0 ≤ (sb + 1130).fmod (2 ^ (15 : Int).toNat) ∧ (sb + 1130).fmod (2 ^ (15 : Int).toNat) < 32768 := fmod_in (by decide)
    generalize (sb + 1130).fmod (2 ^ (15 : Int).toNat) = cutb at hcb ⊢
    obtain ⟨hb0, hb1⟩ := hcb
    obtain ⟨gs, tl, u, first, nm, k, tolds, ts0, F⟩ := plain cards drawn cutb hc0 hc1 hd0 hd1 hb0 hb1
    (with_reducible refine Evs.nil ?_)
    refine Ca.frz (Cal.ca (Cal.mono (Cal.frame (P := [(la, .list [])]) (c_cut w mg mb os cards cutb hc0 (by exact om_90 hc0 hc1)) (Q' := fun d O' => ∃ a, d = .v (.ref a) ∧ OS ([(a, .list ((cutL cutb (cards - 1).toNat 1 [] 1).map D.int))] ++ [(la, .list [])]) O') fun d O' ⟨a, e, hos⟩ => ⟨a, e, hos.app⟩) fun d O' ⟨a, e, hos⟩ => ⟨a, _, _, e, hos, ?_⟩) room1)
    clear hos e
    (with_reducible refine' Evs.cons ?_ ?z118he); (case z118he => rfl); (with_reducible refine Ev.bin ?_; refine' Ev.loc ?z120h ?_); (case z120h => nest_cls); (with_reducible refine Ev.int ?_; refine' Op2.fdivI ?z122h ?z122k ?_); (case z122h => decide); (case z122k => decide); (with_reducible refine' Evs.cons ?_ ?z123he); (case z123he => rfl); (with_reducible refine' Ev.loc ?z124h ?_); (case z124h => nest_cls); (with_reducible refine Evs.nil ?_)
    have ht1 := F.t1
    have ht2 := F.t2
    have hlen : (itemsD tl).length = tl.length := List.length_map ..
    have hl62 : (itemsD tl).length < 2 ^ 62 := by exact om_91 ht1 hlen
    refine Cal.ca (Cal.mono (c_play w mg mb os la _ (drawn.fdiv 32) gs tl u F.play) fun d O' ⟨hos, e⟩ => ?_) room4
    subst e
    (with_reducible refine put_3 ?_)
    refine Exs.weak (O' := [(la, .list (itemsD tl))]) .refl hos ?_
    clear hos
    (with_reducible refine Ss.cons ?_; refine S1.ite ?_; refine' Te.cmp ?_ ?z132hm); (case z132hm => rfl); (with_reducible refine' Ev.loc ?z133h ?_); (case z133h => nest_cls); (with_reducible refine Ev.non ?_; refine Op2.isN ?_; refine Tr.bool ?_; refine' ite_f ?z137h ?_); (case z137h => exact Bool.false_ne_true); (with_reducible refine Ss.nil ?_; refine Ss.cons ?_; refine' S1.as1 ?_ ?z140hs ?z140hw ?z140he); (case z140hs => rfl); (case z140hw => rfl); (case z140he => rfl); (with_reducible refine' Ev.loc ?z141h ?_); (case z141h => nest_cls); (with_reducible refine' As.tup3 ?z142hh ?_); (case z142hh => with_reducible assumption); (with_reducible refine Asl.cons ?_; refine' As.cel ?_ ?z144hl ?z144hf); (case z144hl => kernel_rfl); (case z144hf => rfl); (with_reducible refine put_4 ?_; refine Asl.cons ?_; refine As.loc ?_; refine put_4 ?_; refine Asl.cons ?_; refine As.loc ?_; refine put_5 ?_; refine Asl.nil ?_; refine Ss.cons ?_; refine' S1.asC ?_ ?z167hl ?z167hf ?z167hs); (case z167hl => kernel_rfl); (case z167hf => rfl); (case z167hs => rfl); (with_reducible refine' Ev.call ?_ ?z168hp); (case z168hp => intro _; rfl); (with_reducible refine' Ev.bui ?z169h ?_ ?z169hx); (case z169h => with_reducible exact b_len _ _ _ _); (case z169hx => kernel_rfl); (with_reducible refine' ⟨_, rfl, ?z170k, ?_⟩); (case z170k => with_reducible exact Kp.bui); (with_reducible refine' Evs.cons ?_ ?z171he); (case z171he => rfl); (with_reducible refine' Ev.loc ?z172h ?_); (case z172h => nest_cls); (with_reducible refine Evs.nil ?_; refine' Ca.len ?z174l ?z174h ?_); (case z174l => first | with_reducible exact LstOf.frz | ((with_reducible refine' LstOf.own ?z174hm); (case z174hm => nest_cls))); (case z174h => with_reducible assumption); (with_reducible refine put_5 ?_; refine Ss.cons ?_; refine' S1.asC ?_ ?z182hl ?z182hf ?z182hs); (case z182hl => kernel_rfl); (case z182hf => rfl); (case z182hs => rfl); (with_reducible refine' Ev.call ?_ ?z183hp); (case z183hp => intro _; rfl); (with_reducible refine' Ev.glo ?z184h ?_ ?z184hx); (case z184h => with_reducible exact n_Whitespace _ _ _ _); (case z184hx => kernel_rfl); (with_reducible refine' ⟨_, rfl, ?z185k, ?_⟩); (case z185k => with_reducible exact k_264 _ _ _ _); (with_reducible refine' Evs.cons ?_ ?z186he); (case z186he => rfl); (with_reducible refine' Ev.loc ?z187h ?_); (case z187h => nest_cls); (with_reducible refine Evs.nil ?_)
    rw [hlen]
    refine ws_ca w mg mb os room2 (Nat.le_trans F.lu (by decide)) ?_
    (with_reducible refine put_6 ?_)
    refine Ss.cons ?_
    (with_reducible refine' S1.asL ?_ ?z196hs); (case z196hs => rfl); (with_reducible refine Ev.sub ?_; refine' Ev.attr ?_ ?z198he); (case z198he => rfl); (with_reducible refine' Ev.cel ?z199h ?_); (case z199h => nest_cls); (with_reducible refine' attr264 ?z200ha ?z200o ?_); (case z200ha => first | with_reducible exact a_norm _ _ _ _ | with_reducible exact a_nt _ _ _ _ | with_reducible exact a_raw _ _ _ _ | with_reducible exact a_n _ _ _ _); (case z200o => with_reducible exact ObjOf.frz); (with_reducible refine' fatS ?z201h ?_); (case z201h => kernel_rfl); (with_reducible refine' fatS ?z202h ?_); (case z202h => kernel_rfl); (with_reducible refine' fatS ?z203h ?_); (case z203h => kernel_rfl); (with_reducible refine fat0 ?_; refine' hq ?z205h ?_); (case z205h => rfl); (with_reducible refine Ev.int ?_; refine' Op2.itemT ?z207a ?z207b ?z207c ?z207d ?_ ?z207hs); (case z207a => decide); (case z207b => decide); (case z207c => first | with_reducible assumption | rfl); (case z207d => first | with_reducible assumption | rfl); (case z207hs => intros; rfl); (with_reducible refine put_6 ?_)
    have hgl := F.gl
    have hgT := gs_at (gs := gs) (m := tl.length) (by exact om_92 hlen hgl)
    have hgT1 : ((tl.length : Nat) : Int) < (gs.map guyD).length := by rw [List.length_map]; exact om_93 hlen hgl
    rw [F.wb]
    refine Ss.same [(la, .list (itemsD tl))] ?_ ?_
    · (with_reducible refine S1.ite ?_; refine' Te.cmp ?_ ?z216hm); (case z216hm => rfl)
      refine' Ev.compM [(".0", none), ("move", none)] [("guys", some (.lst (gs.map guyD))), ("turn", some (.int ((tl.length : Nat) : Int)))] (pickF fun m => eqG (gAt gs m) (gAt gs tl.length)) hh ?hp ?c1 ?c2 ?c3 ?c4 ?c5 ?c6 ?c7 ?_
      case hp => rfl
      case c1 => rfl
      case c2 => rfl
      case c3 => decide +kernel
      case c4 => decide +kernel
      case c5 => kernel_rfl
      case c6 => repeat (first | exact .nil | refine ck_cons (by nest_cls) (.inl (by kernel_rfl)) (by kernel_rfl) (by kernel_rfl) ?_)
      case c7 => exact fun _ => rfl
      (with_reducible refine' Ev.call ?_ ?z217hp); (case z217hp => intro _; rfl); (with_reducible refine' Ev.bui ?z218h ?_ ?z218hx); (case z218h => with_reducible exact b_range _ _ _ _); (case z218hx => kernel_rfl); (with_reducible refine' ⟨_, rfl, ?z219k, ?_⟩); (case z219k => with_reducible exact Kp.typ); (with_reducible refine' Evs.cons ?_ ?z220he); (case z220he => rfl); (with_reducible refine' Ev.cel ?z221h ?_); (case z221h => nest_cls); (with_reducible refine Evs.nil ?_; refine Ca.range1 ?_; refine' getI_range ?z224h ?z224k (fun _ => ?_)); (case z224h => decide); (case z224k => exact om_94 ht1 hlen hgl)
      refine ⟨_, _, rfl, fun L d hd' => ?_, ?_, ?_⟩
      · rw [Int.sub_zero, Int.toNat_natCast] at hd'
        obtain ⟨i, hi, rfl⟩ := mem_rangeFrom1 hd'
        rw [Int.zero_add]
        intro O
        have hgi := gs_at (gs := gs) (m := i) (by exact om_95 hlen hgl hi)
        have hgi1 : ((i : Nat) : Int) < (gs.map guyD).length := by rw [List.length_map]; exact om_96 hlen hgl hi
        (with_reducible refine As.loc ?_; refine put_1 ?_; refine Ifs.one ?_; refine' Te.val ?_ ?z229he); (case z229he => rfl); (with_reducible refine' Ev.meth ?_ ?z230hm ?z230hp); (case z230hm => exact ⟨_, rfl⟩); (case z230hp => intro _; rfl); (with_reducible refine Ev.sub ?_; refine' Ev.cel ?z232h ?_); (case z232h => nest_cls); (with_reducible refine' Ev.loc ?z233h ?_); (case z233h => nest_cls); (with_reducible refine' Op2.itemL ?z234l ?z234a ?z234b ?z234d ?_ ?z234hs); (case z234l => first | with_reducible exact LstOf.frz | ((with_reducible refine' LstOf.own ?z234hm); (case z234hm => nest_cls))); (case z234a => exact om_97); (case z234b => exact om_98 ht1 ht2 hlen hgl hi); (case z234d => first | with_reducible assumption | rfl); (case z234hs => intros; rfl); (with_reducible refine' meth264 ?z235hf ?z235ht ?z235o ?z235hs ?_); (case z235hf => with_reducible exact m_240 _ _ _ _); (case z235ht => with_reducible exact ty_240 _ _ _ _); (case z235o => with_reducible exact ObjOf.frz); (case z235hs => kernel_rfl); (with_reducible refine' And.intro ?z236k ?_); (case z236k => with_reducible exact k_240 _ _ _ _); (with_reducible refine' Evs.cons ?_ ?z237he); (case z237he => rfl); (with_reducible refine Ev.sub ?_; refine' Ev.cel ?z239h ?_); (case z239h => nest_cls); (with_reducible refine' Ev.cel ?z240h ?_); (case z240h => nest_cls); (with_reducible refine' Op2.itemL ?z241l ?z241a ?z241b ?z241d ?_ ?z241hs); (case z241l => first | with_reducible exact LstOf.frz | ((with_reducible refine' LstOf.own ?z241hm); (case z241hm => nest_cls))); (case z241a => exact om_99 ht1 hlen hgl); (case z241b => exact om_100 ht1 hlen hgl); (case z241d => first | with_reducible assumption | rfl); (case z241hs => intros; rfl); (with_reducible refine Evs.nil ?_; refine Ca.app1 ?_)
        refine eq_ca room1 ?_
        by_cases c : eqG (gAt gs i) (gAt gs tl.length) = true
        · rw [pickF_pos c]
          rw [c]
          (with_reducible refine Tr.bool ?_; refine ite_t rfl ?_; refine' Ev.loc ?z246h ?_); (case z246h => nest_cls)
          exact ⟨⟨rfl, rfl⟩, rfl, .keep (.drop .nil)⟩
        · rw [pickF_neg c]
          rw [Bool.eq_false_iff.mpr c]
          (with_reducible refine Tr.bool ?_; refine ite_f Bool.false_ne_true ?_)
          exact ⟨⟨rfl, rfl⟩, rfl, .keep (.drop .nil)⟩
      · rw [rangeFrom_len]; unfold sizeLine; exact om_101 ht1 hlen hgl
      · rw [pickF_rng, F.q1]
        refine Ev.lst ?_
        (with_reducible refine' Evs.cons ?_ ?z268he); (case z268he => rfl); (with_reducible refine' Ev.loc ?z269h ?_); (case z269h => nest_cls); (with_reducible refine Evs.nil ?_; refine And.intro (Nat.le_of_ble_eq_true rfl) ?_)
        refine Op2.neIL (l := natI [first]) (m := [(first : Int)]) hu ?_
        rw [show (!(natI [first] == [(first : Int)])) = false by simp [natI]]
        (with_reducible refine Tr.bool ?_; refine ite_f Bool.false_ne_true ?_; refine Ss.nil ?_; refine' ⟨_, rfl, ?z275k, ?_⟩); (case z275k => kwd_rel)
        all_goals first | rfl | exact .refl
    have hit := it_at F.nmI
    have hit1 : ((first : Nat) : Int) < (itemsD tl).length := by rw [hlen]; exact om_102 ht2 hlen hgl
    have hl1 := F.l1
    refine Ss.same [(la, .list (itemsD tl))] ?_ ?_
    · (with_reducible refine S1.ite ?_; refine Te.bool ?_; refine Tes.or ?_; refine' Te.cmp ?_ ?z279hm); (case z279hm => rfl); (with_reducible refine' Ev.meth ?_ ?z280hm ?z280hp); (case z280hm => exact ⟨_, rfl⟩); (case z280hp => intro _; rfl); (with_reducible refine' Ev.loc ?z281h ?_); (case z281h => nest_cls); (with_reducible refine' meth184 ?z282hf ?z282ht ?z282o ?z282hs ?_); (case z282hf => lcg_sub); (case z282ht => lcg_off); (case z282o => with_reducible exact ObjOf.frz); (case z282hs => kernel_rfl); (with_reducible refine' And.intro ?z283k ?_); (case z283k => with_reducible exact k_148 _ _ _ _); (with_reducible refine Evs.nil ?_; refine Ca.app1 ?_)
      refine Cal.ca (Cal.mono (c_items w mg mb os la tl (by exact om_103 ht1 hlen hgl)) fun d O' hd => ?_) room1
      obtain ⟨rfl, rfl⟩ := hd
      (with_reducible refine' Ev.loc ?z286h ?_); (case z286h => nest_cls)
      refine Op2.neIt rfl F.ok1 hu ?_
      (with_reducible refine Tr.bool ?_; refine ite_f Bool.false_ne_true ?_; refine Tes.or ?_; refine' Te.cmp ?_ ?z290hm); (case z290hm => rfl); (with_reducible refine Ev.sub ?_; refine Ev.sub ?_; refine' Ev.loc ?z293h ?_); (case z293h => nest_cls); (with_reducible refine' Ev.loc ?z294h ?_); (case z294h => nest_cls); (with_reducible refine' Op2.itemL ?z295l ?z295a ?z295b ?z295d ?_ ?z295hs); (case z295l => first | with_reducible exact LstOf.frz | ((with_reducible refine' LstOf.own ?z295hm); (case z295hm => nest_cls))); (case z295a => exact om_97); (case z295b => exact om_104 ht1 ht2 hlen hgl); (case z295d => first | with_reducible assumption | rfl); (case z295hs => intros; rfl); (with_reducible refine Ev.int ?_; refine' Op2.itemT ?z297a ?z297b ?z297c ?z297d ?_ ?z297hs); (case z297a => decide); (case z297b => decide); (case z297c => first | with_reducible assumption | rfl); (case z297d => first | with_reducible assumption | rfl); (case z297hs => intros; rfl); (with_reducible refine' Ev.loc ?z298h ?_); (case z298h => nest_cls); (with_reducible refine Op2.neS ?_; refine Tr.bool ?_)
      rw [show (u != u) = false by simp]
      (with_reducible refine ite_f Bool.false_ne_true ?_; refine Tes.orNil ?_; refine ite_f Bool.false_ne_true ?_; refine Ss.nil ?_; refine' ⟨_, rfl, ?z305k, ?_⟩); (case z305k => kwd_rel)
      all_goals first | rfl | exact .refl
    refine Ss.same [(la, .list (itemsD (tl ++ [(nm, ("x" : Str))])))] ?_ ?_
    · (with_reducible refine' S1.exprAny ?_ ?z306hi ?z306hs); (case z306hi => rfl); (case z306hs => rfl); (with_reducible refine' Ev.meth ?_ ?z307hm ?z307hp); (case z307hm => exact ⟨_, rfl⟩); (case z307hp => intro _; rfl); (with_reducible refine' Ev.loc ?z308h ?_); (case z308h => nest_cls); (with_reducible refine' meth184 ?z309hf ?z309ht ?z309o ?z309hs ?_); (case z309hf => lcg_sub); (case z309ht => lcg_off); (case z309o => with_reducible exact ObjOf.frz); (case z309hs => kernel_rfl); (with_reducible refine' And.intro ?z310k ?_); (case z310k => with_reducible exact k_181 _ _ _ _); (with_reducible refine' Evs.cons ?_ ?z311he); (case z311he => rfl); (with_reducible refine Ev.sub ?_; refine Ev.sub ?_; refine' Ev.loc ?z314h ?_); (case z314h => nest_cls); (with_reducible refine' Ev.loc ?z315h ?_); (case z315h => nest_cls); (with_reducible refine' Op2.itemL ?z316l ?z316a ?z316b ?z316d ?_ ?z316hs); (case z316l => first | with_reducible exact LstOf.frz | ((with_reducible refine' LstOf.own ?z316hm); (case z316hm => nest_cls))); (case z316a => exact om_97); (case z316b => exact om_104 ht1 ht2 hlen hgl); (case z316d => first | with_reducible assumption | rfl); (case z316hs => intros; rfl); (with_reducible refine Ev.int ?_; refine' Op2.itemT ?z318a ?z318b ?z318c ?z318d ?_ ?z318hs); (case z318a => decide); (case z318b => decide); (case z318c => first | with_reducible assumption | rfl); (case z318d => first | with_reducible assumption | rfl); (case z318hs => intros; rfl); (with_reducible refine' Evs.cons ?_ ?z319he); (case z319he => rfl); (with_reducible refine Ev.str ?_; refine Evs.nil ?_; refine Ca.app1 ?_)
      refine Cal.ca (Cal.mono (c_addh w mg mb os la tl nm "x" (by exact om_103 ht1 hlen hgl) (by decide +kernel) F.a1 (by decide +kernel)) fun d O' hd => ?_) room2
      obtain ⟨hos, rfl⟩ := hd
      exact ⟨rfl, rfl, rfl, hos⟩
    have hl1' : ∀ p ∈ tl ++ [(nm, ("x" : Str))], (lowered p.1).length ≤ sizeLine := fun p hp => by
      rcases List.mem_append.mp hp with z | z
      · exact hl1 p z
      · obtain rfl := List.mem_singleton.mp z
        exact hl1 (nm, u) (List.mem_of_getElem? F.nmI)
    refine Ss.same [(la, .list (itemsD (tl ++ [(nm, ("x" : Str))])))] ?_ ?_
    · have hz1 := F.z1
      (with_reducible refine S1.ite ?_; refine' Te.cmp ?_ ?z324hm); (case z324hm => rfl); (with_reducible refine' Ev.meth ?_ ?z325hm ?z325hp); (case z325hm => exact ⟨_, rfl⟩); (case z325hp => intro _; rfl); (with_reducible refine' Ev.loc ?z326h ?_); (case z326h => nest_cls); (with_reducible refine' meth184 ?z327hf ?z327ht ?z327o ?z327hs ?_); (case z327hf => lcg_sub); (case z327ht => lcg_off); (case z327o => with_reducible exact ObjOf.frz); (case z327hs => kernel_rfl); (with_reducible refine' And.intro ?z328k ?_); (case z328k => with_reducible exact k_174 _ _ _ _); (with_reducible refine' Evs.cons ?_ ?z329he); (case z329he => rfl); (with_reducible refine' Ev.meth ?_ ?z330hm ?z330hp); (case z330hm => exact ⟨_, rfl⟩); (case z330hp => intro _; rfl); (with_reducible refine Ev.sub ?_; refine Ev.sub ?_; refine' Ev.loc ?z333h ?_); (case z333h => nest_cls); (with_reducible refine' Ev.loc ?z334h ?_); (case z334h => nest_cls); (with_reducible refine' Op2.itemL ?z335l ?z335a ?z335b ?z335d ?_ ?z335hs); (case z335l => first | with_reducible exact LstOf.frz | ((with_reducible refine' LstOf.own ?z335hm); (case z335hm => nest_cls))); (case z335a => exact om_97); (case z335b => exact om_104 ht1 ht2 hlen hgl); (case z335d => first | with_reducible assumption | rfl); (case z335hs => intros; rfl); (with_reducible refine Ev.int ?_; refine' Op2.itemT ?z337a ?z337b ?z337c ?z337d ?_ ?z337hs); (case z337a => decide); (case z337b => decide); (case z337c => first | with_reducible assumption | rfl); (case z337d => first | with_reducible assumption | rfl); (case z337hs => intros; rfl); (with_reducible refine' GetM.str ?z338sl ?z338ty ?_); (case z338sl => first | with_reducible exact PySem.F.slot_str_lower | with_reducible exact PySem.F.slot_str_upper); (case z338ty => first | with_reducible exact PySem.F.type_str_lower | with_reducible exact PySem.F.type_str_upper); (with_reducible refine' And.intro ?z339k ?_); (case z339k => with_reducible exact Kp.bui); (with_reducible refine Evs.nil ?_; refine Ca.app1 ?_; refine' Ca.upper ?z342h ?_); (case z342h => with_reducible assumption); (with_reducible refine' Evs.cons ?_ ?z343he); (case z343he => rfl); (with_reducible refine Ev.str ?_; refine Evs.nil ?_; refine Ca.app1 ?_)
      refine Cal.ca (Cal.mono (c_sdefS w mg mb os la _ (uppered nm) "y" u F.a2 hl1' F.a3) fun d O' hd => ?_) room3
      obtain ⟨hos, rfl⟩ := hd
      (with_reducible refine' Ev.loc ?z347h ?_); (case z347h => nest_cls); (with_reducible refine Op2.neS ?_; refine Tr.bool ?_)
      rw [show (u != u) = false by simp]
      (with_reducible refine ite_f Bool.false_ne_true ?_; refine Ss.nil ?_; refine' ⟨_, rfl, ?z352k, ?_⟩); (case z352k => kwd_rel)
      all_goals first | rfl | exact hos
    have hsg := signOk drawn
    refine Ss.step [("sums", some (.lst [.int sa, .int sb, .int sc])), ("drawn", some (.int drawn)), ("table", some (.inst 184 [("_headers", .v (.ref la))])), ("played", some (.tup [.lst (gs.map guyD), .lst (itemsD tl), .str u])), ("laid", some (.lst (itemsD tl))), ("found", some (.str u)), ("first", some (.int (first : Int))), ("move", none), ("sign", some (.str (signOf drawn))), ("late", none), ("lights", none), ("made", none), ("heights", none), ("red", none), ("green", none), ("blue", none), ("hue", none), ("told", none), ("value", none), ("spot", none), ("step", none)] [("script", some (.v (.ref l))), ("cards", some (.int cards)), ("share", some (.flt share)), ("lean", some (.int ((drawn.fdiv 4).fmod 8))), ("guys", some (.lst (gs.map guyD))), ("turn", some (.int ((tl.length : Nat) : Int))), ("line", some (guyD u)), ("k", none), ("more", none), ("tall", none), ("extra", none), ("ring", none), ("wheel", none)] [(la, .list (itemsD (tl ++ [(nm, ("x" : Str))])))] ?_ ?_
    · (with_reducible refine' S1.asL ?_ ?z353hs); (case z353hs => rfl); (with_reducible refine' Ev.call ?_ ?z354hp); (case z354hp => intro _; rfl); (with_reducible refine' Ev.bui ?z355h ?_ ?z355hx); (case z355h => with_reducible exact b_chr _ _ _ _); (case z355hx => kernel_rfl); (with_reducible refine' ⟨_, rfl, ?z356k, ?_⟩); (case z356k => with_reducible exact Kp.bui); (with_reducible refine' Evs.cons ?_ ?z357he); (case z357he => rfl); (with_reducible refine Ev.ife ?_; refine' Te.cmp ?_ ?z359hm); (case z359hm => rfl); (with_reducible refine Ev.bin ?_; refine' Ev.loc ?z361h ?_); (case z361h => nest_cls); (with_reducible refine Ev.int ?_; refine' Op2.modI ?z363h ?_); (case z363h => decide); (with_reducible refine Ev.int ?_; refine Op2.ltI ?_; refine Tr.bool ?_)
      by_cases c : decide (drawn.fmod 33 < 32) = true
      · have e : signOf drawn = ⟨#[(drawn.fmod 33).toNat]⟩ := by unfold signOf; rw [if_pos c]
        have h33 := fmod_in (a := drawn) (b := 33) (by decide)
        rw [e]
        (with_reducible refine ite_t (by with_reducible assumption) ?_; refine Ev.bin ?_; refine' Ev.loc ?z369h ?_); (case z369h => nest_cls); (with_reducible refine Ev.int ?_; refine' Op2.modI ?z371h ?_); (case z371h => decide); (with_reducible refine Evs.nil ?_)
        refine Ca.chr (by rw [Bool.or_eq_false_iff]; exact ⟨decide_eq_false (by exact om_105 h33), decide_eq_false (by exact om_106 h33)⟩) ?_
        (with_reducible refine put_8 ?_; refine' ⟨_, rfl, ?z382k, ?_⟩); (case z382k => kwd_rel)
        all_goals first | rfl | exact .refl
      · have e : signOf drawn = ⟨#[(127 : Int).toNat]⟩ := by unfold signOf; rw [if_neg c]
        rw [e]
        (with_reducible refine ite_f (by with_reducible assumption) ?_; refine Ev.int ?_; refine Evs.nil ?_)
        refine Ca.chr (by decide) ?_
        (with_reducible refine put_8 ?_; refine' ⟨_, rfl, ?z395k, ?_⟩); (case z395k => kwd_rel)
        all_goals first | rfl | exact .refl
    refine Ss.cons ?_
    (with_reducible refine' S1.asL ?_ ?z396hs); (case z396hs => rfl)
    refine Ev.lstO ?_
    (with_reducible refine' Evs.cons ?_ ?z397he); (case z397he => rfl); (with_reducible refine Ev.tup ?_; refine' Evs.cons ?_ ?z399he); (case z399he => rfl); (with_reducible refine Ev.sub ?_; refine Ev.sub ?_; refine' Ev.loc ?z402h ?_); (case z402h => nest_cls); (with_reducible refine' Ev.loc ?z403h ?_); (case z403h => nest_cls); (with_reducible refine' Op2.itemL ?z404l ?z404a ?z404b ?z404d ?_ ?z404hs); (case z404l => first | with_reducible exact LstOf.frz | ((with_reducible refine' LstOf.own ?z404hm); (case z404hm => nest_cls))); (case z404a => exact om_97); (case z404b => exact om_104 ht1 ht2 hlen hgl); (case z404d => first | with_reducible assumption | rfl); (case z404hs => intros; rfl); (with_reducible refine Ev.int ?_; refine' Op2.itemT ?z406a ?z406b ?z406c ?z406d ?_ ?z406hs); (case z406a => decide); (case z406b => decide); (case z406c => first | with_reducible assumption | rfl); (case z406d => first | with_reducible assumption | rfl); (case z406hs => intros; rfl); (with_reducible refine' Evs.cons ?_ ?z407he); (case z407he => rfl); (with_reducible refine Ev.str ?_; refine Evs.nil ?_; refine And.intro (Nat.le_of_ble_eq_true rfl) ?_; refine Evs.nil ?_; refine And.intro (Nat.le_of_ble_eq_true rfl) ?_)
    intro lt
    (with_reducible refine put_9 ?_)
    refine Ss.step [("sums", some (.lst [.int sa, .int sb, .int sc])), ("drawn", some (.int drawn)), ("table", some (.inst 184 [("_headers", .v (.ref la))])), ("played", some (.tup [.lst (gs.map guyD), .lst (itemsD tl), .str u])), ("laid", some (.lst (itemsD tl))), ("found", some (.str u)), ("first", some (.int (first : Int))), ("move", none), ("sign", some (.str (signOf drawn))), ("late", some (.v (.ref lt))), ("lights", none), ("made", none), ("heights", none), ("red", none), ("green", none), ("blue", none), ("hue", none), ("told", none), ("value", none), ("spot", none), ("step", none)] [("script", some (.v (.ref l))), ("cards", some (.int cards)), ("share", some (.flt share)), ("lean", some (.int ((drawn.fdiv 4).fmod 8))), ("guys", some (.lst (gs.map guyD))), ("turn", some (.int ((tl.length : Nat) : Int))), ("line", some (guyD u)), ("k", none), ("more", none), ("tall", none), ("extra", none), ("ring", none), ("wheel", none)] [(lt, .list (itemsD (lateL nm (signOf drawn)))), (la, .list (itemsD (tl ++ [(nm, ("x" : Str))])))] ?_ ?_
    · unfold lateL
      by_cases c : (signOf drawn == "\t") = true
      · rw [if_pos c]
        (with_reducible refine S1.ite ?_; refine' Te.cmp ?_ ?z424hm); (case z424hm => rfl); (with_reducible refine' Ev.loc ?z425h ?_); (case z425h => nest_cls); (with_reducible refine Ev.str ?_; refine Op2.eqS ?_; refine Tr.bool ?_; refine ite_t (by with_reducible assumption) ?_; refine Ss.cons ?_; refine' S1.exprAny ?_ ?z431hi ?z431hs); (case z431hi => rfl); (case z431hs => rfl); (with_reducible refine' Ev.meth ?_ ?z432hm ?z432hp); (case z432hm => exact ⟨_, rfl⟩); (case z432hp => intro _; rfl); (with_reducible refine' Ev.loc ?z433h ?_); (case z433h => nest_cls)
        refine GetM.list (ds := itemsD [(nm, "x")]) (.own (.head _)) slot_list_append (by first | exact type_list_append | exact PySem.F.type_list_append) ?_
        (with_reducible refine' And.intro ?z434k ?_); (case z434k => with_reducible exact Kp.bui); (with_reducible refine' Evs.cons ?_ ?z435he); (case z435he => rfl); (with_reducible refine Ev.tup ?_; refine' Evs.cons ?_ ?z437he); (case z437he => rfl); (with_reducible refine Ev.str ?_; refine' Evs.cons ?_ ?z439he); (case z439he => rfl); (with_reducible refine' Ev.loc ?z440h ?_); (case z440h => nest_cls); (with_reducible refine Evs.nil ?_; refine And.intro (Nat.le_of_ble_eq_true rfl) ?_; refine Evs.nil ?_; refine Ca.app1 ?_)
        refine Ca.append (ds := itemsD [(nm, "x")]) .here (by show 1 ≤ sizeLine; decide) ?_
        (with_reducible refine Ss.nil ?_; refine' ⟨_, rfl, ?z446k, ?_⟩); (case z446k => kwd_rel)
        all_goals first | rfl | exact .refl
      · rw [if_neg c]
        (with_reducible refine S1.ite ?_; refine' Te.cmp ?_ ?z448hm); (case z448hm => rfl); (with_reducible refine' Ev.loc ?z449h ?_); (case z449h => nest_cls); (with_reducible refine Ev.str ?_; refine Op2.eqS ?_; refine Tr.bool ?_; refine ite_f (by with_reducible assumption) ?_; refine Ss.nil ?_; refine' ⟨_, rfl, ?z455k, ?_⟩); (case z455k => kwd_rel)
        all_goals first | rfl | exact .refl
    refine Exs.frz (a := lt) (xs := itemsD (lateL nm (signOf drawn))) (P := [(la, .list (itemsD (tl ++ [(nm, ("x" : Str))])))]) (ρ' := [("sums", some (.lst [.int sa, .int sb, .int sc])), ("drawn", some (.int drawn)), ("table", some (.inst 184 [("_headers", .v (.ref la))])), ("played", some (.tup [.lst (gs.map guyD), .lst (itemsD tl), .str u])), ("laid", some (.lst (itemsD tl))), ("found", some (.str u)), ("first", some (.int (first : Int))), ("move", none), ("sign", some (.str (signOf drawn))), ("late", some (.lst (itemsD (lateL nm (signOf drawn))))), ("lights", none), ("made", none), ("heights", none), ("red", none), ("green", none), ("blue", none), ("hue", none), ("told", none), ("value", none), ("spot", none), ("step", none)]) (κ' := [("script", some (.v (.ref l))), ("cards", some (.int cards)), ("share", some (.flt share)), ("lean", some (.int ((drawn.fdiv 4).fmod 8))), ("guys", some (.lst (gs.map guyD))), ("turn", some (.int ((tl.length : Nat) : Int))), ("line", some (guyD u)), ("k", none), ("more", none), ("tall", none), ("extra", none), ("ring", none), ("wheel", none)]) .refl (.keep (.keep (.keep (.keep (.keep (.keep (.keep (.keep (.keep (.frz .refl)))))))))) .refl ?_
    refine Ss.same [(la, .list (itemsD (tl ++ lateL nm (signOf drawn))))] ?_ ?_
    · have hlz : (("z" : Str) ++ signOf drawn).length ≤ sizeLine := by rw [Str.len_app, hsg.h5]; decide
      refine S1.iteX (Tx.bool (Txs.or (Tx.not (Tx.val (Ex.call (n := 4) hA1 room4 rfl ?_ ?hp) rfl))))
      case hp => intro _; rfl
      (with_reducible refine' Ev.glo ?z456h ?_ ?z456hx); (case z456h => with_reducible exact n__law_refused _ _ _ _); (case z456hx => kernel_rfl); (with_reducible refine' ⟨_, rfl, ?z457k, ?_⟩); (case z457k => with_reducible exact k_299 _ _ _ _); (with_reducible refine' Evs.cons ?_ ?z458he); (case z458he => rfl); (with_reducible refine' Ev.loc ?z459h ?_); (case z459h => nest_cls); (with_reducible refine' Evs.cons ?_ ?z460he); (case z460he => rfl); (with_reducible refine Ev.bin ?_; refine Ev.str ?_; refine' Ev.loc ?z463h ?_); (case z463h => nest_cls)
      refine Op2.addS (by rw [hsg.h5]; decide) ?_
      (with_reducible refine' Evs.cons ?_ ?z464he); (case z464he => rfl); (with_reducible refine Ev.str ?_; refine Evs.nil ?_)
      refine CalF.mono (c_refR1 w mg mb os la ("z" ++ signOf drawn) "" _ hsg.h0 hsg.h1) fun d O' h => ?_
      obtain ⟨rfl, rfl⟩ := h
      refine Tr.bool ?_
      refine ite_f (by decide) ?_
      refine Txs.or (Tx.cmp (Ex.call (n := 4) hA1 room4 rfl ?_ ?hp2) rfl)
      case hp2 => intro _; rfl
      (with_reducible refine' Ev.glo ?z467h ?_ ?z467hx); (case z467h => with_reducible exact n__law_refused _ _ _ _); (case z467hx => kernel_rfl); (with_reducible refine' ⟨_, rfl, ?z468k, ?_⟩); (case z468k => with_reducible exact k_299 _ _ _ _); (with_reducible refine' Evs.cons ?_ ?z469he); (case z469he => rfl); (with_reducible refine' Ev.loc ?z470h ?_); (case z470h => nest_cls); (with_reducible refine' Evs.cons ?_ ?z471he); (case z471he => rfl); (with_reducible refine Ev.str ?_; refine' Evs.cons ?_ ?z473he); (case z473he => rfl); (with_reducible refine' Ev.loc ?z474h ?_); (case z474h => nest_cls); (with_reducible refine Evs.nil ?_)
      by_cases c : (signOf drawn == "\t") = true
      · have el : tl ++ lateL nm (signOf drawn) = (tl ++ [(nm, ("x" : Str))]) ++ [(("z" : Str), signOf drawn)] := by unfold lateL; rw [if_pos c, List.append_assoc]; rfl
        rw [el]
        refine CalF.mono (CalF.of (c_refN w mg mb os la _ "z" (signOf drawn) (by rw [List.length_append]; show _ + 1 ≤ _; exact om_107 ht1 hlen hgl) (by decide +kernel) hl1' (by decide +kernel) (hsg.h2 c) F.a4)) fun d O' h => ?_
        obtain ⟨hos, rfl⟩ := h
        (with_reducible refine' Ev.cmp ?_ ?z476hm); (case z476hm => rfl); (with_reducible refine' Ev.loc ?z477h ?_); (case z477h => nest_cls); (with_reducible refine Ev.str ?_; refine Op2.eqS ?_)
        rw [c]
        refine Op2.eqD (da := .bool false) (db := .bool true) (by simp [toPy]) (by simp [toPy]) (by decide) (by decide) hu ?_
        rw [show PyData.eqv (.bool false) (.bool true) = false by decide +kernel]
        refine Tr.bool (ite_f (by decide) (Txs.orNil (ite_f (by decide) ?_)))
        exact Ss.nil ⟨rfl, rfl, rfl, hos⟩
      · have cf := Bool.eq_false_iff.mpr c
        have el : tl ++ lateL nm (signOf drawn) = tl ++ [(nm, ("x" : Str))] := by unfold lateL; rw [if_neg c]
        rw [el]
        refine CalF.mono (c_refR2 w mg mb os la _ "z" (signOf drawn) [] (by decide +kernel) hl1' (by decide +kernel) (hsg.h3 cf) F.a4) fun d O' h => ?_
        obtain ⟨rfl, rfl⟩ := h
        (with_reducible refine' Ev.cmp ?_ ?z480hm); (case z480hm => rfl); (with_reducible refine' Ev.loc ?z481h ?_); (case z481h => nest_cls); (with_reducible refine Ev.str ?_; refine Op2.eqS ?_)
        rw [cf]
        refine Op2.eqD (da := .bool true) (db := .bool false) (by simp [toPy]) (by simp [toPy]) (by decide) (by decide) hu ?_
        rw [show PyData.eqv (.bool true) (.bool false) = false by decide +kernel]
        refine Tr.bool (ite_f (by decide) (Txs.orNil (ite_f (by decide) ?_)))
        exact Ss.nil ⟨rfl, rfl, rfl, .refl⟩
    refine Ss.same [(la, .list (itemsD (tl ++ lateL nm (signOf drawn))))] ?_ ?_
    · (with_reducible refine S1.ite ?_; refine' Te.cmp ?_ ?z485hm); (case z485hm => rfl); (with_reducible refine' Ev.meth ?_ ?z486hm ?z486hp); (case z486hm => exact ⟨_, rfl⟩); (case z486hp => intro _; rfl); (with_reducible refine' Ev.loc ?z487h ?_); (case z487h => nest_cls); (with_reducible refine' meth184 ?z488hf ?z488ht ?z488o ?z488hs ?_); (case z488hf => lcg_sub); (case z488ht => lcg_off); (case z488o => with_reducible exact ObjOf.frz); (case z488hs => kernel_rfl); (with_reducible refine' And.intro ?z489k ?_); (case z489k => with_reducible exact k_148 _ _ _ _); (with_reducible refine Evs.nil ?_; refine Ca.app1 ?_)
      refine Cal.ca (Cal.mono (c_items w mg mb os la _ (by have := lateL_len nm (signOf drawn); rw [List.length_append]; exact om_108 ht1 ht2 hlen hgl this)) fun d O' hd => ?_) room1
      obtain ⟨rfl, rfl⟩ := hd
      (with_reducible refine Ev.bin ?_; refine' Ev.loc ?z493h ?_); (case z493h => nest_cls); (with_reducible refine' Ev.loc ?z494h ?_); (case z494h => nest_cls)
      have hll := lateL_len nm (signOf drawn)
      refine Op2.addL .frz .frz (by unfold itemsD; rw [List.length_map, List.length_map]; unfold sizeLine; exact om_109 ht1 ht2 hlen hgl hll) ?_
      have ei : itemsD tl ++ itemsD (lateL nm (signOf drawn)) = itemsD (tl ++ lateL nm (signOf drawn)) := by unfold itemsD; rw [List.map_append]
      rw [ei]
      refine Op2.neIt rfl (fun p hp => ?_) hu ?_
      · have hnm := F.ok1 _ (List.mem_of_getElem? F.nmI)
        rcases List.mem_append.mp hp with z | z
        · exact F.ok1 p z
        · unfold lateL at z
          have hx : PyData.strOk ("x" : Str) = true := by decide +kernel
          have hz : PyData.strOk ("z" : Str) = true := by decide +kernel
          split at z
          · rcases List.mem_cons.mp z with rfl | z
            · exact ⟨hnm.1, hx⟩
            · obtain rfl := List.mem_singleton.mp z; exact ⟨hz, hsg.h4⟩
          · obtain rfl := List.mem_singleton.mp z; exact ⟨hnm.1, hx⟩
      (with_reducible refine Tr.bool ?_; refine ite_f Bool.false_ne_true ?_; refine Ss.nil ?_; refine' ⟨_, rfl, ?z498k, ?_⟩); (case z498k => kwd_rel)
      all_goals first | rfl | exact .refl
    refine Ss.same [(la, .list (itemsD (tl ++ lateL nm (signOf drawn))))] ?_ ?_
    · (with_reducible refine S1.ite ?_; refine' Te.cmp ?_ ?z500hm); (case z500hm => rfl)
      refine' Ev.compM [(".0", none), ("move", none)] [("guys", some (.lst (gs.map guyD))), ("line", some (guyD u)), ("cards", some (.int cards))] (pickF fun m => eqG (gAt gs m) u || (wsN (gAt gs m) - wsNt (gAt gs m) != cards)) hh ?hp ?c1 ?c2 ?c3 ?c4 ?c5 ?c6 ?c7 ?_
      case hp => rfl
      case c1 => rfl
      case c2 => rfl
      case c3 => decide +kernel
      case c4 => decide +kernel
      case c5 => kernel_rfl
      case c6 => repeat (first | exact .nil | refine ck_cons (by nest_cls) (.inl (by kernel_rfl)) (by kernel_rfl) (by kernel_rfl) ?_)
      case c7 => exact fun _ => rfl
      (with_reducible refine' Ev.call ?_ ?z501hp); (case z501hp => intro _; rfl); (with_reducible refine' Ev.bui ?z502h ?_ ?z502hx); (case z502h => with_reducible exact b_range _ _ _ _); (case z502hx => kernel_rfl); (with_reducible refine' ⟨_, rfl, ?z503k, ?_⟩); (case z503k => with_reducible exact Kp.typ); (with_reducible refine' Evs.cons ?_ ?z504he); (case z504he => rfl); (with_reducible refine' Ev.cel ?z505h ?_); (case z505h => nest_cls); (with_reducible refine Evs.nil ?_; refine Ca.range1 ?_; refine' getI_range ?z508h ?z508k (fun _ => ?_)); (case z508h => decide); (case z508k => exact om_94 ht1 hlen hgl)
      refine ⟨_, _, rfl, fun L d hd' => ?_, ?_, ?_⟩
      · rw [Int.sub_zero, Int.toNat_natCast] at hd'
        obtain ⟨i, hi, rfl⟩ := mem_rangeFrom1 hd'
        rw [Int.zero_add]
        intro O
        have hgi := gs_at (gs := gs) (m := i) (by exact om_95 hlen hgl hi)
        have hgi1 : ((i : Nat) : Int) < (gs.map guyD).length := by rw [List.length_map]; exact om_96 hlen hgl hi
        (with_reducible refine As.loc ?_; refine put_1 ?_; refine Ifs.one ?_; refine Te.bool ?_; refine Tes.or ?_; refine' Te.val ?_ ?z515he); (case z515he => rfl); (with_reducible refine' Ev.meth ?_ ?z516hm ?z516hp); (case z516hm => exact ⟨_, rfl⟩); (case z516hp => intro _; rfl); (with_reducible refine Ev.sub ?_; refine' Ev.cel ?z518h ?_); (case z518h => nest_cls); (with_reducible refine' Ev.loc ?z519h ?_); (case z519h => nest_cls); (with_reducible refine' Op2.itemL ?z520l ?z520a ?z520b ?z520d ?_ ?z520hs); (case z520l => first | with_reducible exact LstOf.frz | ((with_reducible refine' LstOf.own ?z520hm); (case z520hm => nest_cls))); (case z520a => exact om_97); (case z520b => exact om_98 ht1 ht2 hlen hgl hi); (case z520d => first | with_reducible assumption | rfl); (case z520hs => intros; rfl); (with_reducible refine' meth264 ?z521hf ?z521ht ?z521o ?z521hs ?_); (case z521hf => with_reducible exact m_240 _ _ _ _); (case z521ht => with_reducible exact ty_240 _ _ _ _); (case z521o => with_reducible exact ObjOf.frz); (case z521hs => kernel_rfl); (with_reducible refine' And.intro ?z522k ?_); (case z522k => with_reducible exact k_240 _ _ _ _); (with_reducible refine' Evs.cons ?_ ?z523he); (case z523he => rfl); (with_reducible refine' Ev.cel ?z524h ?_); (case z524h => nest_cls); (with_reducible refine Evs.nil ?_; refine Ca.app1 ?_)
        refine eq_ca room1 ?_
        by_cases c : eqG (gAt gs i) u = true
        · rw [pickF_pos (c := fun m => eqG (gAt gs m) u || (wsN (gAt gs m) - wsNt (gAt gs m) != cards)) (by show (eqG _ _ || _) = true; rw [c]; rfl)]
          rw [c]
          (with_reducible refine Tr.bool ?_; refine ite_t rfl ?_; refine ite_t rfl ?_; refine' Ev.loc ?z530h ?_); (case z530h => nest_cls)
          exact ⟨⟨rfl, rfl⟩, rfl, .keep (.drop .nil)⟩
        · have cf := Bool.eq_false_iff.mpr c
          rw [cf]
          (with_reducible refine Tr.bool ?_; refine ite_f Bool.false_ne_true ?_; refine Tes.or ?_; refine' Te.cmp ?_ ?z552hm); (case z552hm => rfl); (with_reducible refine Ev.bin ?_; refine' Ev.attr ?_ ?z554he); (case z554he => rfl); (with_reducible refine Ev.sub ?_; refine' Ev.cel ?z556h ?_); (case z556h => nest_cls); (with_reducible refine' Ev.loc ?z557h ?_); (case z557h => nest_cls); (with_reducible refine' Op2.itemL ?z558l ?z558a ?z558b ?z558d ?_ ?z558hs); (case z558l => first | with_reducible exact LstOf.frz | ((with_reducible refine' LstOf.own ?z558hm); (case z558hm => nest_cls))); (case z558a => exact om_97); (case z558b => exact om_98 ht1 ht2 hlen hgl hi); (case z558d => first | with_reducible assumption | rfl); (case z558hs => intros; rfl); (with_reducible refine' attr264 ?z559ha ?z559o ?_); (case z559ha => first | with_reducible exact a_norm _ _ _ _ | with_reducible exact a_nt _ _ _ _ | with_reducible exact a_raw _ _ _ _ | with_reducible exact a_n _ _ _ _); (case z559o => with_reducible exact ObjOf.frz); (with_reducible refine' fatS ?z560h ?_); (case z560h => kernel_rfl); (with_reducible refine fat0 ?_; refine' hq ?z562h ?_); (case z562h => rfl); (with_reducible refine' Ev.attr ?_ ?z563he); (case z563he => rfl); (with_reducible refine Ev.sub ?_; refine' Ev.cel ?z565h ?_); (case z565h => nest_cls); (with_reducible refine' Ev.loc ?z566h ?_); (case z566h => nest_cls); (with_reducible refine' Op2.itemL ?z567l ?z567a ?z567b ?z567d ?_ ?z567hs); (case z567l => first | with_reducible exact LstOf.frz | ((with_reducible refine' LstOf.own ?z567hm); (case z567hm => nest_cls))); (case z567a => exact om_97); (case z567b => exact om_98 ht1 ht2 hlen hgl hi); (case z567d => first | with_reducible assumption | rfl); (case z567hs => intros; rfl); (with_reducible refine' attr264 ?z568ha ?z568o ?_); (case z568ha => first | with_reducible exact a_norm _ _ _ _ | with_reducible exact a_nt _ _ _ _ | with_reducible exact a_raw _ _ _ _ | with_reducible exact a_n _ _ _ _); (case z568o => with_reducible exact ObjOf.frz); (with_reducible refine' fatS ?z569h ?_); (case z569h => kernel_rfl); (with_reducible refine' fatS ?z570h ?_); (case z570h => kernel_rfl); (with_reducible refine fat0 ?_; refine' hq ?z572h ?_); (case z572h => rfl); (with_reducible refine Op2.subI ?_; refine' Ev.cel ?z574h ?_); (case z574h => nest_cls); (with_reducible refine Op2.neI ?_; refine Tr.bool ?_)
          by_cases c2 : (wsN (gAt gs i) - wsNt (gAt gs i) != cards) = true
          · rw [pickF_pos (c := fun m => eqG (gAt gs m) u || (wsN (gAt gs m) - wsNt (gAt gs m) != cards)) (by show (eqG _ _ || _) = true; rw [c2, Bool.or_true])]
            (with_reducible refine ite_t (by with_reducible assumption) ?_; refine ite_t rfl ?_; refine' Ev.loc ?z579h ?_); (case z579h => nest_cls)
            exact ⟨⟨rfl, rfl⟩, rfl, .keep (.drop .nil)⟩
          · rw [pickF_neg (c := fun m => eqG (gAt gs m) u || (wsN (gAt gs m) - wsNt (gAt gs m) != cards)) (by show ¬ (eqG _ _ || _) = true; rw [cf, Bool.false_or]; exact c2)]
            (with_reducible refine ite_f (by with_reducible assumption) ?_; refine Tes.orNil ?_; refine ite_f Bool.false_ne_true ?_)
            exact ⟨⟨rfl, rfl⟩, rfl, .keep (.drop .nil)⟩
      · rw [rangeFrom_len]; unfold sizeLine; exact om_101 ht1 hlen hgl
      · rw [pickF_rng, F.q2]
        refine Ev.lst ?_
        (with_reducible refine Evs.nil ?_; refine And.intro (Nat.le_of_ble_eq_true rfl) ?_)
        refine Op2.neIL (l := []) (m := []) hu ?_
        (with_reducible refine Tr.bool ?_; refine' ite_f ?z632h ?_); (case z632h => exact Bool.false_ne_true); (with_reducible refine Ss.nil ?_; refine' ⟨_, rfl, ?z634k, ?_⟩); (case z634k => kwd_rel)
        all_goals first | rfl | exact .refl
    have hk1 := F.k1
    have hk5 := F.k5
    refine Ss.step [("sums", some (.lst [.int sa, .int sb, .int sc])), ("drawn", some (.int drawn)), ("table", some (.inst 184 [("_headers", .v (.ref la))])), ("played", some (.tup [.lst (gs.map guyD), .lst (itemsD tl), .str u])), ("laid", some (.lst (itemsD tl))), ("found", some (.str u)), ("first", some (.int (first : Int))), ("move", none), ("sign", some (.str (signOf drawn))), ("late", some (.lst (itemsD (lateL nm (signOf drawn))))), ("lights", none), ("made", none), ("heights", none), ("red", none), ("green", none), ("blue", none), ("hue", none), ("told", none), ("value", none), ("spot", none), ("step", none)] [("script", some (.v (.ref l))), ("cards", some (.int cards)), ("share", some (.flt share)), ("lean", some (.int ((drawn.fdiv 4).fmod 8))), ("guys", some (.lst (gs.map guyD))), ("turn", some (.int ((tl.length : Nat) : Int))), ("line", some (guyD u)), ("k", some (.int k)), ("more", none), ("tall", none), ("extra", none), ("ring", none), ("wheel", none)] [(la, .list (itemsD (tl ++ lateL nm (signOf drawn))))] ?_ ?_
    · (with_reducible refine' S1.asC ?_ ?z635hl ?z635hf ?z635hs); (case z635hl => kernel_rfl); (case z635hf => rfl); (case z635hs => rfl); (with_reducible refine' Ev.call ?_ ?z636hp); (case z636hp => intro _; rfl); (with_reducible refine' Ev.bui ?z637h ?_ ?z637hx); (case z637h => with_reducible exact b_max _ _ _ _); (case z637hx => kernel_rfl); (with_reducible refine' ⟨_, rfl, ?z638k, ?_⟩); (case z638k => with_reducible exact Kp.bui); (with_reducible refine' Evs.cons ?_ ?z639he); (case z639he => rfl)
      refine' Ev.compM [(".0", none), ("size", none)] [("cards", some (.int cards))] (intF fun s => decide (s * (s + 1) ≤ 2 * cards)) hh ?hp ?c1 ?c2 ?c3 ?c4 ?c5 ?c6 ?c7 ?_
      case hp => rfl
      case c1 => rfl
      case c2 => rfl
      case c3 => decide +kernel
      case c4 => decide +kernel
      case c5 => kernel_rfl
      case c6 => repeat (first | exact .nil | refine ck_cons (by nest_cls) (.inl (by kernel_rfl)) (by kernel_rfl) (by kernel_rfl) ?_)
      case c7 => exact fun _ => rfl
      (with_reducible refine' Ev.call ?_ ?z640hp); (case z640hp => intro _; rfl); (with_reducible refine' Ev.bui ?z641h ?_ ?z641hx); (case z641h => with_reducible exact b_range _ _ _ _); (case z641hx => kernel_rfl); (with_reducible refine' ⟨_, rfl, ?z642k, ?_⟩); (case z642k => with_reducible exact Kp.typ); (with_reducible refine' Evs.cons ?_ ?z643he); (case z643he => rfl); (with_reducible refine Ev.int ?_; refine' Evs.cons ?_ ?z645he); (case z645he => rfl); (with_reducible refine Ev.int ?_; refine Evs.nil ?_; refine Ca.range2 ?_; refine' getI_range ?z649h ?z649k (fun _ => ?_)); (case z649h => decide); (case z649k => decide)
      refine ⟨_, _, rfl, fun L d hd' => ?_, ?_, ?_⟩
      · obtain ⟨i, hi, rfl⟩ := mem_rangeFrom1 hd'
        have hi0 : 0 ≤ (1 + (i : Int)) := by exact om_110
        have hi1 : (1 + (i : Int)).natAbs ≤ 1000 := by exact om_111 hi
        generalize 1 + (i : Int) = p at hi0 hi1 ⊢
        intro O
        (with_reducible refine As.loc ?_; refine put_1 ?_; refine Ifs.one ?_; refine' Te.cmp ?_ ?z654hm); (case z654hm => rfl); (with_reducible refine Ev.bin ?_; refine' Ev.loc ?z656h ?_); (case z656h => nest_cls); (with_reducible refine Ev.bin ?_; refine' Ev.loc ?z658h ?_); (case z658h => nest_cls); (with_reducible refine Ev.int ?_; refine Op2.addI ?_; refine' Op2.mulI ?z661h ?_); (case z661h => exact mulOkL (by exact om_112 hi1)); (with_reducible refine Ev.bin ?_; refine Ev.int ?_; refine' Ev.cel ?z664h ?_); (case z664h => nest_cls); (with_reducible refine' Op2.mulI ?z665h ?_); (case z665h => exact mulOkL (by decide)); (with_reducible refine Op2.leI ?_; refine Tr.bool ?_)
        by_cases c : decide (p * (p + 1) ≤ 2 * cards) = true
        · rw [intF_pos (c := fun s => decide (s * (s + 1) ≤ 2 * cards)) c]
          (with_reducible refine ite_t (by with_reducible assumption) ?_; refine' Ev.loc ?z669h ?_); (case z669h => nest_cls)
          exact ⟨⟨rfl, rfl⟩, rfl, .keep (.drop .nil)⟩
        · rw [intF_neg (c := fun s => decide (s * (s + 1) ≤ 2 * cards)) c]
          (with_reducible refine ite_f (by with_reducible assumption) ?_)
          exact ⟨⟨rfl, rfl⟩, rfl, .keep (.drop .nil)⟩
      · rw [rangeFrom_len]; decide
      · rw [show rangeFrom 1 1 (6 - 1 : Int).toNat = (rangeI 1 5).map D.int from rangeI_eq _ _, intF_eq]
        (with_reducible refine Evs.nil ?_)
        refine Ca.maxL hh .frz (kOf_ne hc0) ?_
        rw [show maxI _ = k from F.hk]
        (with_reducible refine put_7 ?_; refine' ⟨_, rfl, ?z698k, ?_⟩); (case z698k => kwd_rel)
        all_goals first | rfl | exact .refl
    refine Ss.cons ?_
    (with_reducible refine' S1.asC ?_ ?z699hl ?z699hf ?z699hs); (case z699hl => kernel_rfl); (case z699hf => rfl); (case z699hs => rfl)
    refine Ev.lstO ?_
    refine Evs.nil ⟨by decide, fun mo => ?_⟩
    (with_reducible refine put_8 ?_)
    refine Ss.step ([("sums", some (.lst [.int sa, .int sb, .int sc])), ("drawn", some (.int drawn)), ("table", some (.inst 184 [("_headers", .v (.ref la))])), ("played", some (.tup [.lst (gs.map guyD), .lst (itemsD tl), .str u])), ("laid", some (.lst (itemsD tl))), ("found", some (.str u)), ("first", some (.int (first : Int))), ("move", none), ("sign", some (.str (signOf drawn))), ("late", some (.lst (itemsD (lateL nm (signOf drawn))))), ("lights", none), ("made", none), ("heights", none), ("red", none), ("green", none), ("blue", none), ("hue", none), ("told", none), ("value", none), ("spot", none), ("step", none)]) ([("script", some (.v (.ref l))), ("cards", some (.int cards)), ("share", some (.flt share)), ("lean", some (.int ((drawn.fdiv 4).fmod 8))), ("guys", some (.lst (gs.map guyD))), ("turn", some (.int ((tl.length : Nat) : Int))), ("line", some (guyD u)), ("k", some (.int k)), ("more", some (.v (.ref mo))), ("tall", tallO tolds k tl.length), ("extra", none), ("ring", none), ("wheel", none)]) ([(mo, .list (moreDs tolds k tl.length)), (la, .list (itemsD (tl ++ lateL nm (signOf drawn))))]) ?_ ?_
    · refine' S1.forIn (σ := Nat) (fun _ => [("sums", some (.lst [.int sa, .int sb, .int sc])), ("drawn", some (.int drawn)), ("table", some (.inst 184 [("_headers", .v (.ref la))])), ("played", some (.tup [.lst (gs.map guyD), .lst (itemsD tl), .str u])), ("laid", some (.lst (itemsD tl))), ("found", some (.str u)), ("first", some (.int (first : Int))), ("move", none), ("sign", some (.str (signOf drawn))), ("late", some (.lst (itemsD (lateL nm (signOf drawn))))), ("lights", none), ("made", none), ("heights", none), ("red", none), ("green", none), ("blue", none), ("hue", none), ("told", none), ("value", none), ("spot", none), ("step", none)]) (fun m => [("script", some (.v (.ref l))), ("cards", some (.int cards)), ("share", some (.flt share)), ("lean", some (.int ((drawn.fdiv 4).fmod 8))), ("guys", some (.lst (gs.map guyD))), ("turn", some (.int ((tl.length : Nat) : Int))), ("line", some (guyD u)), ("k", some (.int k)), ("more", some (.v (.ref mo))), ("tall", tallO tolds k m), ("extra", none), ("ring", none), ("wheel", none)]) (fun m => [(mo, .list (moreDs tolds k m)), (la, .list (itemsD (tl ++ lateL nm (signOf drawn))))]) (fun m ds => ds = rangeFrom (m : Int) 1 (tl.length - m) ∧ m ≤ tl.length) hh ?_ ?_ ?_ ?hp ?hs
      case hp => rfl
      case hs => exact fun _ => rfl
      · (with_reducible refine' Ev.call ?_ ?z709hp); (case z709hp => intro _; rfl); (with_reducible refine' Ev.bui ?z710h ?_ ?z710hx); (case z710h => with_reducible exact b_range _ _ _ _); (case z710hx => kernel_rfl); (with_reducible refine' ⟨_, rfl, ?z711k, ?_⟩); (case z711k => with_reducible exact Kp.typ); (with_reducible refine' Evs.cons ?_ ?z712he); (case z712he => rfl); (with_reducible refine' Ev.cel ?z713h ?_); (case z713h => nest_cls); (with_reducible refine Evs.nil ?_; refine Ca.range1 ?_; refine' getI_range ?z716h ?z716k (fun _ => ?_)); (case z716h => decide); (case z716k => exact om_94 ht1 hlen hgl)
        exact ⟨0, _, .refl, rfl, rfl, by rw [Int.sub_zero, Int.toNat_natCast]; rfl, Nat.zero_le _⟩
      · rintro I m d ds ⟨e, hm⟩
        have hm' : m < tl.length := by
          rcases Nat.lt_or_ge m tl.length with z | z
          · exact z
          · rw [Nat.sub_eq_zero_of_le z] at e; cases e
        rw [show tl.length - m = (tl.length - (m + 1)) + 1 by exact om_113 hlen hgl hm'] at e
        obtain ⟨rfl, rfl⟩ := List.cons.inj e
        have hP := F.q3 m hm'
        have hgm := gs_at (gs := gs) (m := m) (by exact om_95 hlen hgl hm')
        have hgm1 : ((m : Nat) : Int) < (gs.map guyD).length := by rw [List.length_map]; exact om_96 hlen hgl hm'
        (with_reducible refine As.loc ?_; refine put_7 ?_; refine Ss.cons ?_; refine' S1.asC ?_ ?z727hl ?z727hf ?z727hs); (case z727hl => kernel_rfl); (case z727hf => rfl); (case z727hs => rfl); (with_reducible refine Ev.sub ?_; refine' Ev.call ?_ ?z729hp); (case z729hp => intro _; rfl); (with_reducible refine' Ev.glo ?z730h ?_ ?z730hx); (case z730h => with_reducible exact n__law_piles _ _ _ _); (case z730hx => kernel_rfl); (with_reducible refine' ⟨_, rfl, ?z731k, ?_⟩); (case z731k => with_reducible exact k_287 _ _ _ _); (with_reducible refine' Evs.cons ?_ ?z732he); (case z732he => rfl); (with_reducible refine Ev.sub ?_; refine' Ev.cel ?z734h ?_); (case z734h => nest_cls); (with_reducible refine' Ev.loc ?z735h ?_); (case z735h => nest_cls); (with_reducible refine' Op2.itemL ?z736l ?z736a ?z736b ?z736d ?_ ?z736hs); (case z736l => first | with_reducible exact LstOf.frz | ((with_reducible refine' LstOf.own ?z736hm); (case z736hm => nest_cls))); (case z736a => exact om_97); (case z736b => exact om_98 ht1 ht2 hlen hgl hm'); (case z736d => first | with_reducible assumption | rfl); (case z736hs => intros; rfl); (with_reducible refine Evs.nil ?_)
        refine Cal.ca (Cal.pure (c_piles w mg mb os _ _ _ _ _ _ hP.c1 hP.c2 (by rw [hP.c3, List.length_map]; have := hP.t1; exact om_65 this)) fun d O' h => ⟨h.1, ?_⟩) room1
        rw [h.2, hP.c3]
        (with_reducible refine Ev.slice ?_; refine EvP.none ?_; refine EvP.none ?_; refine EvP.some ?_; refine Ev.una ?_; refine Ev.int ?_; refine Op1.negI ?_; refine ⟨_, rfl, ?_⟩)
        have hr1 := hP.r1
        have hz1 := hP.z1
        refine Op2.sliceL .frz (by decide) (by rw [List.length_map]; have := hP.t1; unfold sizeLine; exact om_64 this) ?_ (fun _ _ => ⟨_, rfl⟩)
        rw [pickI_eq, show pickI (tAt tolds m) none none (some (-1)) = revI (tAt tolds m) from rfl]
        have hr62 : ((revI (tAt tolds m)).map D.int).length < 2 ^ 62 := by rw [List.length_map]; exact om_114 hr1
        (with_reducible refine put_9 ?_; refine Ss.cons ?_; refine' S1.asC ?_ ?z757hl ?z757hf ?z757hs); (case z757hl => kernel_rfl); (case z757hf => rfl); (case z757hs => rfl); (with_reducible refine Ev.bin ?_; refine' Ev.cel ?z759h ?_); (case z759h => nest_cls); (with_reducible refine Ev.bin ?_)
        refine Ev.lst ?_
        (with_reducible refine' Evs.cons ?_ ?z761he); (case z761he => rfl); (with_reducible refine Ev.int ?_; refine Evs.nil ?_; refine And.intro (Nat.le_of_ble_eq_true rfl) ?_; refine Ev.bin ?_; refine Ev.bin ?_; refine' Ev.cel ?z767h ?_); (case z767h => nest_cls); (with_reducible refine Ev.int ?_; refine Op2.addI ?_; refine' Ev.call ?_ ?z770hp); (case z770hp => intro _; rfl); (with_reducible refine' Ev.bui ?z771h ?_ ?z771hx); (case z771h => with_reducible exact b_len _ _ _ _); (case z771hx => kernel_rfl); (with_reducible refine' ⟨_, rfl, ?z772k, ?_⟩); (case z772k => with_reducible exact Kp.bui); (with_reducible refine' Evs.cons ?_ ?z773he); (case z773he => rfl); (with_reducible refine' Ev.cel ?z774h ?_); (case z774h => nest_cls); (with_reducible refine Evs.nil ?_; refine' Ca.len ?z776l ?z776h ?_); (case z776l => first | with_reducible exact LstOf.frz | ((with_reducible refine' LstOf.own ?z776hm); (case z776hm => nest_cls))); (case z776h => with_reducible assumption); (with_reducible refine Op2.subI ?_)
        rw [List.length_map]
        refine Op2.mulLZ .frz (by exact om_115 hk1 hk5 hr1) (by exact om_116 hk1 hk5 hr1) ?_
        have et : (revI (tAt tolds m)).map D.int ++ List.replicate (k + 1 - ((revI (tAt tolds m)).length : Int)).toNat (D.int 0) = (tallI (tAt tolds m) k).map D.int := by unfold tallI; rw [List.map_append, List.map_replicate]
        refine Op2.addL .frz .frz (by rw [List.length_map, List.length_replicate]; unfold sizeLine; exact om_117 hk1 hk5 hr1) ?_
        rw [et]
        have hz62 : ((tallI (tAt tolds m) k).map D.int).length < 2 ^ 62 := by rw [List.length_map]; exact om_114 hz1
        have hzl : ((tallI (tAt tolds m) k).map D.int).length = (tallI (tAt tolds m) k).length := List.length_map ..
        (with_reducible refine put_9 ?_; refine Ss.cons ?_; refine' S1.exprAny ?_ ?z789hi ?z789hs); (case z789hi => rfl); (case z789hs => rfl); (with_reducible refine' Ev.meth ?_ ?z790hm ?z790hp); (case z790hm => exact ⟨_, rfl⟩); (case z790hp => intro _; rfl); (with_reducible refine' Ev.cel ?z791h ?_); (case z791h => nest_cls)
        refine GetM.list (ds := moreDs tolds k m) (.own (by nest_cls)) slot_list_append (by first | exact type_list_append | exact PySem.F.type_list_append) ?_
        (with_reducible refine' And.intro ?z792k ?_); (case z792k => with_reducible exact Kp.bui); (with_reducible refine' Evs.cons ?_ ?z793he); (case z793he => rfl)
        refine' Ev.compM [(".0", none), ("place", none)] [("tall", some (.lst ((tallI (tAt tolds m) k).map D.int))), ("k", some (.int k))] (placeF (tAt tolds m) k) hh ?hp ?c1 ?c2 ?c3 ?c4 ?c5 ?c6 ?c7 ?_
        case hp => rfl
        case c1 => rfl
        case c2 => rfl
        case c3 => decide +kernel
        case c4 => decide +kernel
        case c5 => kernel_rfl
        case c6 => repeat (first | exact .nil | refine ck_cons (by nest_cls) (.inl (by kernel_rfl)) (by kernel_rfl) (by kernel_rfl) ?_)
        case c7 => exact fun _ => rfl
        (with_reducible refine' Ev.call ?_ ?z794hp); (case z794hp => intro _; rfl); (with_reducible refine' Ev.bui ?z795h ?_ ?z795hx); (case z795h => with_reducible exact b_range _ _ _ _); (case z795hx => kernel_rfl); (with_reducible refine' ⟨_, rfl, ?z796k, ?_⟩); (case z796k => with_reducible exact Kp.typ); (with_reducible refine' Evs.cons ?_ ?z797he); (case z797he => rfl); (with_reducible refine' Ev.call ?_ ?z798hp); (case z798hp => intro _; rfl); (with_reducible refine' Ev.bui ?z799h ?_ ?z799hx); (case z799h => with_reducible exact b_len _ _ _ _); (case z799hx => kernel_rfl); (with_reducible refine' ⟨_, rfl, ?z800k, ?_⟩); (case z800k => with_reducible exact Kp.bui); (with_reducible refine' Evs.cons ?_ ?z801he); (case z801he => rfl); (with_reducible refine' Ev.cel ?z802h ?_); (case z802h => nest_cls); (with_reducible refine Evs.nil ?_; refine' Ca.len ?z804l ?z804h ?_); (case z804l => first | with_reducible exact LstOf.frz | ((with_reducible refine' LstOf.own ?z804hm); (case z804hm => nest_cls))); (case z804h => with_reducible assumption); (with_reducible refine Evs.nil ?_; refine Ca.range1 ?_; refine' getI_range ?z807h ?z807k (fun _ => ?_)); (case z807h => decide); (case z807k => exact om_53 hz1 hzl)
        rw [hzl]
        refine ⟨_, _, rfl, fun L d hd' => ?_, ?_, ?_⟩
        · rw [Int.sub_zero, Int.toNat_natCast] at hd'
          obtain ⟨i, hi, rfl⟩ := mem_rangeFrom1 hd'
          rw [Int.zero_add]
          intro O
          have hti : ((tallI (tAt tolds m) k).map D.int)[((i : Nat) : Int).toNat]? = some (.int ((tallI (tAt tolds m) k).getD i 0)) := by
            rw [Int.toNat_natCast, List.getElem?_map, List.getElem?_eq_getElem hi, List.getD_eq_getElem?_getD, List.getElem?_eq_getElem hi]; rfl
          have hti1 : ((i : Nat) : Int) < ((tallI (tAt tolds m) k).map D.int).length := by rw [hzl]; exact om_118 hzl hi
          have ef : placeF (tAt tolds m) k (.int (i : Int)) = some (.int ((tallI (tAt tolds m) k).getD i 0 + (i : Int) - k)) := rfl
          rw [ef]
          (with_reducible refine As.loc ?_; refine put_1 ?_; refine Ifs.nil ?_; refine ite_t rfl ?_; refine Ev.bin ?_; refine Ev.bin ?_; refine Ev.sub ?_; refine' Ev.cel ?z816h ?_); (case z816h => nest_cls); (with_reducible refine' Ev.loc ?z817h ?_); (case z817h => nest_cls); (with_reducible refine' Op2.itemL ?z818l ?z818a ?z818b ?z818d ?_ ?z818hs); (case z818l => first | with_reducible exact LstOf.frz | ((with_reducible refine' LstOf.own ?z818hm); (case z818hm => nest_cls))); (case z818a => exact om_97); (case z818b => exact om_58 hz1 hzl hi); (case z818d => first | with_reducible assumption | rfl); (case z818hs => intros; rfl); (with_reducible refine' Ev.loc ?z819h ?_); (case z819h => nest_cls); (with_reducible refine Op2.addI ?_; refine' Ev.cel ?z821h ?_); (case z821h => nest_cls); (with_reducible refine Op2.subI ?_)
          exact ⟨⟨rfl, rfl⟩, rfl, .keep (.drop .nil)⟩
        · rw [rangeFrom_len]; unfold sizeLine; exact om_119 hz1 hzl
        rw [placeF_eq]
        (with_reducible refine Evs.nil ?_; refine Ca.app1 ?_)
        refine Ca.append (ds := moreDs tolds k m) (.there .here) (by unfold moreDs; rw [List.length_map, List.length_range]; unfold sizeLine; exact om_120 ht1 ht2 hlen hgl hm') ?_
        rw [moreDs_succ]
        (with_reducible refine Ss.nil ?_)
        exact ⟨m + 1, .keep (.keep (.keep (.keep (.keep (.keep (.keep (.drop (.keep (.keep (.keep (.keep (.keep (.keep (.keep (.keep (.keep (.keep (.keep (.keep (.keep (.nil))))))))))))))))))))), rfl, .refl, rfl, hm'⟩
      · rintro m ⟨e, hm⟩
        have hme : m = tl.length := by
          rcases Nat.lt_or_ge m tl.length with z | z
          · rw [show tl.length - m = (tl.length - (m + 1)) + 1 by exact om_113 hlen hgl z] at e; cases e
          · exact om_121 hlen hgl hm z
        subst hme
        exact ⟨rfl, rfl, rfl, .refl⟩
    refine Exs.frz (a := mo) (xs := moreDs tolds k tl.length) (P := [(la, .list (itemsD (tl ++ lateL nm (signOf drawn))))]) (ρ' := [("sums", some (.lst [.int sa, .int sb, .int sc])), ("drawn", some (.int drawn)), ("table", some (.inst 184 [("_headers", .v (.ref la))])), ("played", some (.tup [.lst (gs.map guyD), .lst (itemsD tl), .str u])), ("laid", some (.lst (itemsD tl))), ("found", some (.str u)), ("first", some (.int (first : Int))), ("move", none), ("sign", some (.str (signOf drawn))), ("late", some (.lst (itemsD (lateL nm (signOf drawn))))), ("lights", none), ("made", none), ("heights", none), ("red", none), ("green", none), ("blue", none), ("hue", none), ("told", none), ("value", none), ("spot", none), ("step", none)]) (κ' := [("script", some (.v (.ref l))), ("cards", some (.int cards)), ("share", some (.flt share)), ("lean", some (.int ((drawn.fdiv 4).fmod 8))), ("guys", some (.lst (gs.map guyD))), ("turn", some (.int ((tl.length : Nat) : Int))), ("line", some (guyD u)), ("k", some (.int k)), ("more", some (.lst (moreDs tolds k tl.length))), ("tall", tallO tolds k tl.length), ("extra", none), ("ring", none), ("wheel", none)]) .refl .refl (.keep (.keep (.keep (.keep (.keep (.keep (.keep (.keep (.frz .refl))))))))) ?_
    refine Ss.same [(la, .list (itemsD (tl ++ lateL nm (signOf drawn))))] ?_ ?_
    · (with_reducible refine S1.ite ?_; refine' Te.cmp ?_ ?z827hm); (case z827hm => rfl)
      refine' Ev.compM [(".0", none), ("move", none)] [("more", some (.lst (moreDs tolds k tl.length)))] (pickF fun m => decide (minI (moreI (tAt tolds m) k) ≥ 0) && decide (maxI (moreI (tAt tolds m) k) ≤ 1)) hh ?hp ?c1 ?c2 ?c3 ?c4 ?c5 ?c6 ?c7 ?_
      case hp => rfl
      case c1 => rfl
      case c2 => rfl
      case c3 => decide +kernel
      case c4 => decide +kernel
      case c5 => kernel_rfl
      case c6 => repeat (first | exact .nil | refine ck_cons (by nest_cls) (.inl (by kernel_rfl)) (by kernel_rfl) (by kernel_rfl) ?_)
      case c7 => exact fun _ => rfl
      (with_reducible refine' Ev.call ?_ ?z828hp); (case z828hp => intro _; rfl); (with_reducible refine' Ev.bui ?z829h ?_ ?z829hx); (case z829h => with_reducible exact b_range _ _ _ _); (case z829hx => kernel_rfl); (with_reducible refine' ⟨_, rfl, ?z830k, ?_⟩); (case z830k => with_reducible exact Kp.typ); (with_reducible refine' Evs.cons ?_ ?z831he); (case z831he => rfl); (with_reducible refine' Ev.cel ?z832h ?_); (case z832h => nest_cls); (with_reducible refine Evs.nil ?_; refine Ca.range1 ?_; refine' getI_range ?z835h ?z835k (fun _ => ?_)); (case z835h => decide); (case z835k => exact om_94 ht1 hlen hgl)
      refine ⟨_, _, rfl, fun L d hd' => ?_, ?_, ?_⟩
      · rw [Int.sub_zero, Int.toNat_natCast] at hd'
        obtain ⟨i, hi, rfl⟩ := mem_rangeFrom1 hd'
        rw [Int.zero_add]
        intro O
        have hmi := more_at (tolds := tolds) (k := k) hi
        have hmi1 : ((i : Nat) : Int) < (moreDs tolds k tl.length).length := by rw [moreDs_len]; exact om_122 hlen hgl hi
        have hne : 0 < (moreI (tAt tolds i) k).length := by rw [moreI_len]; exact (F.q3 i hi).z0
        (with_reducible refine As.loc ?_; refine put_1 ?_; refine Ifs.one ?_; refine Te.bool ?_; refine Tes.and ?_; refine' Te.cmp ?_ ?z842hm); (case z842hm => rfl); (with_reducible refine' Ev.call ?_ ?z843hp); (case z843hp => intro _; rfl); (with_reducible refine' Ev.bui ?z844h ?_ ?z844hx); (case z844h => with_reducible exact b_min _ _ _ _); (case z844hx => kernel_rfl); (with_reducible refine' ⟨_, rfl, ?z845k, ?_⟩); (case z845k => with_reducible exact Kp.bui); (with_reducible refine' Evs.cons ?_ ?z846he); (case z846he => rfl); (with_reducible refine Ev.sub ?_; refine' Ev.cel ?z848h ?_); (case z848h => nest_cls); (with_reducible refine' Ev.loc ?z849h ?_); (case z849h => nest_cls); (with_reducible refine' Op2.itemL ?z850l ?z850a ?z850b ?z850d ?_ ?z850hs); (case z850l => first | with_reducible exact LstOf.frz | ((with_reducible refine' LstOf.own ?z850hm); (case z850hm => nest_cls))); (case z850a => exact om_97); (case z850b => exact om_98 ht1 ht2 hlen hgl hi); (case z850d => first | with_reducible assumption | rfl); (case z850hs => intros; rfl); (with_reducible refine Evs.nil ?_)
        refine Ca.minL hh .frz hne ?_
        (with_reducible refine Ev.int ?_; refine Op2.geI ?_; refine Tr.bool ?_)
        by_cases c1 : decide (minI (moreI (tAt tolds i) k) ≥ 0) = true
        · (with_reducible refine ite_t (by with_reducible assumption) ?_; refine Tes.and ?_; refine' Te.cmp ?_ ?z857hm); (case z857hm => rfl); (with_reducible refine' Ev.call ?_ ?z858hp); (case z858hp => intro _; rfl); (with_reducible refine' Ev.bui ?z859h ?_ ?z859hx); (case z859h => with_reducible exact b_max _ _ _ _); (case z859hx => kernel_rfl); (with_reducible refine' ⟨_, rfl, ?z860k, ?_⟩); (case z860k => with_reducible exact Kp.bui); (with_reducible refine' Evs.cons ?_ ?z861he); (case z861he => rfl); (with_reducible refine Ev.sub ?_; refine' Ev.cel ?z863h ?_); (case z863h => nest_cls); (with_reducible refine' Ev.loc ?z864h ?_); (case z864h => nest_cls); (with_reducible refine' Op2.itemL ?z865l ?z865a ?z865b ?z865d ?_ ?z865hs); (case z865l => first | with_reducible exact LstOf.frz | ((with_reducible refine' LstOf.own ?z865hm); (case z865hm => nest_cls))); (case z865a => exact om_97); (case z865b => exact om_98 ht1 ht2 hlen hgl hi); (case z865d => first | with_reducible assumption | rfl); (case z865hs => intros; rfl); (with_reducible refine Evs.nil ?_)
          refine Ca.maxL hh .frz hne ?_
          (with_reducible refine Ev.int ?_; refine Op2.leI ?_; refine Tr.bool ?_)
          by_cases c2 : decide (maxI (moreI (tAt tolds i) k) ≤ 1) = true
          · rw [pickF_pos (c := fun m => decide (minI (moreI (tAt tolds m) k) ≥ 0) && decide (maxI (moreI (tAt tolds m) k) ≤ 1)) (by show (_ && _) = true; rw [c1, c2]; rfl)]
            (with_reducible refine ite_t (by with_reducible assumption) ?_; refine Tes.andNil ?_; refine ite_t rfl ?_; refine' Ev.loc ?z873h ?_); (case z873h => nest_cls)
            exact ⟨⟨rfl, rfl⟩, rfl, .keep (.drop .nil)⟩
          · rw [pickF_neg (c := fun m => decide (minI (moreI (tAt tolds m) k) ≥ 0) && decide (maxI (moreI (tAt tolds m) k) ≤ 1)) (by show ¬ (_ && _) = true; rw [c1, Bool.true_and]; exact c2)]
            (with_reducible refine ite_f (by with_reducible assumption) ?_; refine ite_f Bool.false_ne_true ?_)
            exact ⟨⟨rfl, rfl⟩, rfl, .keep (.drop .nil)⟩
        · rw [pickF_neg (c := fun m => decide (minI (moreI (tAt tolds m) k) ≥ 0) && decide (maxI (moreI (tAt tolds m) k) ≤ 1)) (by show ¬ (_ && _) = true; rw [Bool.eq_false_iff.mpr c1, Bool.false_and]; decide)]
          (with_reducible refine ite_f (by with_reducible assumption) ?_; refine ite_f Bool.false_ne_true ?_)
          exact ⟨⟨rfl, rfl⟩, rfl, .keep (.drop .nil)⟩
      · rw [rangeFrom_len]; unfold sizeLine; exact om_101 ht1 hlen hgl
      · rw [pickF_rng, F.q4]
        (with_reducible refine' Ev.call ?_ ?z931hp); (case z931hp => intro _; rfl); (with_reducible refine' Ev.bui ?z932h ?_ ?z932hx); (case z932h => with_reducible exact b_list _ _ _ _); (case z932hx => kernel_rfl); (with_reducible refine' ⟨_, rfl, ?z933k, ?_⟩); (case z933k => with_reducible exact Kp.typ); (with_reducible refine' Evs.cons ?_ ?z934he); (case z934he => rfl); (with_reducible refine' Ev.call ?_ ?z935hp); (case z935hp => intro _; rfl); (with_reducible refine' Ev.bui ?z936h ?_ ?z936hx); (case z936h => with_reducible exact b_range _ _ _ _); (case z936hx => kernel_rfl); (with_reducible refine' ⟨_, rfl, ?z937k, ?_⟩); (case z937k => with_reducible exact Kp.typ); (with_reducible refine' Evs.cons ?_ ?z938he); (case z938he => rfl); (with_reducible refine' Ev.loc ?z939h ?_); (case z939h => nest_cls); (with_reducible refine' Evs.cons ?_ ?z940he); (case z940he => rfl); (with_reducible refine' Ev.cel ?z941h ?_); (case z941h => nest_cls); (with_reducible refine Evs.nil ?_; refine Ca.range2 ?_; refine Evs.nil ?_)
        have hsz := rangeSize_one ((first : Nat) : Int) ((tl.length : Nat) : Int)
        refine Ca.listRng (n := tl.length - first) hh (small_one (by exact om_123 ht1 ht2 hlen hgl) (by exact om_94 ht1 hlen hgl)) (by rw [hsz]; exact om_124 ht2 hlen hgl) (by exact om_125 ht1 ht2 hlen hgl) ?_
        rw [natI_from]
        refine Op2.neIL hu ?_
        rw [show (!(natI (List.range' first (tl.length - first)) == natI (List.range' first (tl.length - first)))) = false by simp]
        (with_reducible refine Tr.bool ?_; refine ite_f Bool.false_ne_true ?_; refine Ss.nil ?_; refine' ⟨_, rfl, ?z948k, ?_⟩); (case z948k => kwd_rel)
        all_goals first | rfl | exact .refl
    have hP1 := F.q3 first ht2
    have hmf := more_at (tolds := tolds) (k := k) ht2
    have hmf1 : ((first : Nat) : Int) < (moreDs tolds k tl.length).length := by rw [moreDs_len]; exact om_102 ht2 hlen hgl
    refine Ss.step ([("sums", some (.lst [.int sa, .int sb, .int sc])), ("drawn", some (.int drawn)), ("table", some (.inst 184 [("_headers", .v (.ref la))])), ("played", some (.tup [.lst (gs.map guyD), .lst (itemsD tl), .str u])), ("laid", some (.lst (itemsD tl))), ("found", some (.str u)), ("first", some (.int (first : Int))), ("move", none), ("sign", some (.str (signOf drawn))), ("late", some (.lst (itemsD (lateL nm (signOf drawn))))), ("lights", none), ("made", none), ("heights", none), ("red", none), ("green", none), ("blue", none), ("hue", none), ("told", none), ("value", none), ("spot", none), ("step", none)]) ([("script", some (.v (.ref l))), ("cards", some (.int cards)), ("share", some (.flt share)), ("lean", some (.int ((drawn.fdiv 4).fmod 8))), ("guys", some (.lst (gs.map guyD))), ("turn", some (.int ((tl.length : Nat) : Int))), ("line", some (guyD u)), ("k", some (.int k)), ("more", some (.lst (moreDs tolds k tl.length))), ("tall", tallO tolds k tl.length), ("extra", some (.lst ((moreI (tAt tolds first) k).map D.int))), ("ring", none), ("wheel", none)]) ([(la, .list (itemsD (tl ++ lateL nm (signOf drawn))))]) ?_ ?_
    · (with_reducible refine' S1.asC ?_ ?z949hl ?z949hf ?z949hs); (case z949hl => kernel_rfl); (case z949hf => rfl); (case z949hs => rfl); (with_reducible refine Ev.sub ?_; refine' Ev.cel ?z951h ?_); (case z951h => nest_cls); (with_reducible refine' Ev.loc ?z952h ?_); (case z952h => nest_cls); (with_reducible refine' Op2.itemL ?z953l ?z953a ?z953b ?z953d ?_ ?z953hs); (case z953l => first | with_reducible exact LstOf.frz | ((with_reducible refine' LstOf.own ?z953hm); (case z953hm => nest_cls))); (case z953a => exact om_97); (case z953b => exact om_104 ht1 ht2 hlen hgl); (case z953d => first | with_reducible assumption | rfl); (case z953hs => intros; rfl); (with_reducible refine put_10 ?_; refine' ⟨_, rfl, ?z965k, ?_⟩); (case z965k => kwd_rel)
      all_goals first | rfl | exact .refl
    have hexl : ((moreI (tAt tolds first) k).map D.int).length ≤ 1000 := by rw [List.length_map, moreI_len]; exact hP1.z1
    refine Ss.same [(la, .list (itemsD (tl ++ lateL nm (signOf drawn))))] ?_ ?_
    · (with_reducible refine S1.ite ?_; refine' Te.cmp ?_ ?z967hm); (case z967hm => rfl); (with_reducible refine Ev.bin ?_; refine' Ev.cel ?z969h ?_); (case z969h => nest_cls); (with_reducible refine' Ev.loc ?z970h ?_); (case z970h => nest_cls); (with_reducible refine Op2.subI ?_; refine' Ev.call ?_ ?z972hp); (case z972hp => intro _; rfl); (with_reducible refine' Ev.bui ?z973h ?_ ?z973hx); (case z973h => with_reducible exact b_min _ _ _ _); (case z973hx => kernel_rfl); (with_reducible refine' ⟨_, rfl, ?z974k, ?_⟩); (case z974k => with_reducible exact Kp.bui); (with_reducible refine' Evs.cons ?_ ?z975he); (case z975he => rfl)
      refine' Ev.compM [(".0", none), ("d", none)] [("extra", some (.lst ((moreI (tAt tolds first) k).map D.int)))] (intF fun d => rotI d (moreI (tAt tolds first) k) == moreI (tAt tolds first) k) hh ?hp ?c1 ?c2 ?c3 ?c4 ?c5 ?c6 ?c7 ?_
      case hp => rfl
      case c1 => rfl
      case c2 => rfl
      case c3 => decide +kernel
      case c4 => decide +kernel
      case c5 => kernel_rfl
      case c6 => repeat (first | exact .nil | refine ck_cons (by nest_cls) (.inl (by kernel_rfl)) (by kernel_rfl) (by kernel_rfl) ?_)
      case c7 => exact fun _ => rfl
      (with_reducible refine' Ev.call ?_ ?z976hp); (case z976hp => intro _; rfl); (with_reducible refine' Ev.bui ?z977h ?_ ?z977hx); (case z977h => with_reducible exact b_range _ _ _ _); (case z977hx => kernel_rfl); (with_reducible refine' ⟨_, rfl, ?z978k, ?_⟩); (case z978k => with_reducible exact Kp.typ); (with_reducible refine' Evs.cons ?_ ?z979he); (case z979he => rfl); (with_reducible refine Ev.int ?_; refine' Evs.cons ?_ ?z981he); (case z981he => rfl); (with_reducible refine Ev.bin ?_; refine' Ev.cel ?z983h ?_); (case z983h => nest_cls); (with_reducible refine Ev.int ?_; refine Op2.addI ?_; refine Evs.nil ?_; refine Ca.range2 ?_; refine' getI_range ?z988h ?z988k (fun _ => ?_)); (case z988h => decide); (case z988k => exact om_126 hk1 hk5)
      refine ⟨_, _, rfl, fun L d hd' => ?_, ?_, ?_⟩
      · rw [show (k + 2 - 1).toNat = (k + 1).toNat by congr 1; exact om_127] at hd'
        obtain ⟨i, hi, rfl⟩ := mem_rangeFrom1 hd'
        have hq := F.q7 _ (mem_rangeI (a := 1) hi)
        generalize 1 + (i : Int) = p at hq ⊢
        intro O
        have hd1 : ((moreI (tAt tolds first) k).map D.int).length ≤ sizeLine := Nat.le_trans hexl (by decide)
        (with_reducible refine As.loc ?_; refine put_1 ?_; refine Ifs.one ?_; refine' Te.cmp ?_ ?z993hm); (case z993hm => rfl); (with_reducible refine Ev.bin ?_; refine Ev.sub ?_; refine' Ev.cel ?z996h ?_); (case z996h => nest_cls); (with_reducible refine Ev.slice ?_; refine EvP.some ?_; refine Ev.una ?_; refine' Ev.loc ?z1000h ?_); (case z1000h => nest_cls); (with_reducible refine Op1.negI ?_; refine ⟨_, rfl, ?_⟩; refine EvP.none ?_; refine EvP.none ?_)
        refine Op2.sliceL .frz (by decide) hd1 ?_ (fun _ _ => ⟨_, rfl⟩)
        rw [pickI_eq]
        (with_reducible refine Ev.sub ?_; refine' Ev.cel ?z1006h ?_); (case z1006h => nest_cls); (with_reducible refine Ev.slice ?_; refine EvP.none ?_; refine EvP.some ?_; refine Ev.una ?_; refine' Ev.loc ?z1011h ?_); (case z1011h => nest_cls); (with_reducible refine Op1.negI ?_; refine ⟨_, rfl, ?_⟩; refine EvP.none ?_)
        refine Op2.sliceL .frz (by decide) hd1 ?_ (fun _ _ => ⟨_, rfl⟩)
        rw [pickI_eq]
        refine Op2.addL .frz .frz (by rw [List.length_map, List.length_map]; have := hq.1; have := hq.2; unfold sizeLine; exact om_128 hq) ?_
        rw [← List.map_append]
        (with_reducible refine' Ev.cel ?z1015h ?_); (case z1015h => nest_cls)
        refine Op2.eqIL hu ?_
        by_cases c : (rotI p (moreI (tAt tolds first) k) == moreI (tAt tolds first) k) = true
        · rw [intF_pos (c := fun d => rotI d (moreI (tAt tolds first) k) == moreI (tAt tolds first) k) c]
          have c' : (pickI (moreI (tAt tolds first) k) (some (-p)) none none ++ pickI (moreI (tAt tolds first) k) none (some (-p)) none == moreI (tAt tolds first) k) = true := c
          rw [c']
          (with_reducible refine Tr.bool ?_; refine ite_t rfl ?_; refine' Ev.loc ?z1018h ?_); (case z1018h => nest_cls)
          exact ⟨⟨rfl, rfl⟩, rfl, .keep (.drop .nil)⟩
        · rw [intF_neg (c := fun d => rotI d (moreI (tAt tolds first) k) == moreI (tAt tolds first) k) c]
          have c' : (pickI (moreI (tAt tolds first) k) (some (-p)) none none ++ pickI (moreI (tAt tolds first) k) none (some (-p)) none == moreI (tAt tolds first) k) = false := Bool.eq_false_iff.mpr c
          rw [c']
          (with_reducible refine Tr.bool ?_; refine ite_f Bool.false_ne_true ?_)
          exact ⟨⟨rfl, rfl⟩, rfl, .keep (.drop .nil)⟩
      · rw [rangeFrom_len]; unfold sizeLine; exact om_129 hk1 hk5
      · rw [show (k + 2 - 1).toNat = (k + 1).toNat by congr 1; exact om_127, rangeI_eq, intF_eq]
        (with_reducible refine Evs.nil ?_)
        refine Ca.minL hh .frz F.q5n ?_
        rw [F.q5]
        (with_reducible refine Op2.neI ?_; refine Tr.bool ?_)
        rw [show (((tl.length : Nat) : Int) - (first : Int) != ((tl.length : Nat) : Int) - (first : Int)) = false by simp]
        (with_reducible refine ite_f Bool.false_ne_true ?_; refine Ss.nil ?_; refine' ⟨_, rfl, ?z1053k, ?_⟩); (case z1053k => kwd_rel)
        all_goals first | rfl | exact .refl
    have hexn : 0 < (moreI (tAt tolds first) k).length := by rw [moreI_len]; exact hP1.z0
    have hkk : k.natAbs ≤ 1000 := by exact om_130 hk1 hk5
    refine Ss.same [(la, .list (itemsD (tl ++ lateL nm (signOf drawn))))] ?_ ?_
    · have q6 := F.q6
      (with_reducible refine S1.ite ?_; refine Te.bool ?_; refine Tes.and ?_; refine' Te.cmp ?_ ?z1057hm); (case z1057hm => rfl); (with_reducible refine' Ev.call ?_ ?z1058hp); (case z1058hp => intro _; rfl); (with_reducible refine' Ev.bui ?z1059h ?_ ?z1059hx); (case z1059h => with_reducible exact b_max _ _ _ _); (case z1059hx => kernel_rfl); (with_reducible refine' ⟨_, rfl, ?z1060k, ?_⟩); (case z1060k => with_reducible exact Kp.bui); (with_reducible refine' Evs.cons ?_ ?z1061he); (case z1061he => rfl); (with_reducible refine' Ev.cel ?z1062h ?_); (case z1062h => nest_cls); (with_reducible refine Evs.nil ?_)
      refine Ca.maxL hh .frz hexn ?_
      by_cases c1 : (maxI (moreI (tAt tolds first) k) == 0) = true
      · rw [c1, Bool.true_and] at q6
        have q6' : ¬ decide (k * k - k < (first : Int)) = true := by rw [show decide (k * k - k < (first : Int)) = false from q6]; decide
        (with_reducible refine Ev.int ?_; refine Op2.eqI ?_; refine Tr.bool ?_; refine ite_t (by with_reducible assumption) ?_; refine Tes.and ?_; refine' Te.cmp ?_ ?z1069hm); (case z1069hm => rfl); (with_reducible refine' Ev.loc ?z1070h ?_); (case z1070h => nest_cls); (with_reducible refine Ev.bin ?_; refine Ev.bin ?_; refine' Ev.cel ?z1073h ?_); (case z1073h => nest_cls); (with_reducible refine' Ev.cel ?z1074h ?_); (case z1074h => nest_cls); (with_reducible refine' Op2.mulI ?z1075h ?_); (case z1075h => exact mulOkL (by exact om_112 hkk)); (with_reducible refine' Ev.cel ?z1076h ?_); (case z1076h => nest_cls); (with_reducible refine Op2.subI ?_; refine Op2.gtI ?_; refine Tr.bool ?_; refine ite_f (by with_reducible assumption) ?_; refine ite_f Bool.false_ne_true ?_; refine Ss.nil ?_; refine' ⟨_, rfl, ?z1083k, ?_⟩); (case z1083k => kwd_rel)
        all_goals first | rfl | exact .refl
      · (with_reducible refine Ev.int ?_; refine Op2.eqI ?_; refine Tr.bool ?_; refine ite_f (by with_reducible assumption) ?_; refine ite_f Bool.false_ne_true ?_; refine Ss.nil ?_; refine' ⟨_, rfl, ?z1090k, ?_⟩); (case z1090k => kwd_rel)
        all_goals first | rfl | exact .refl
    have hLt := F.lt
    rw [show shareU drawn = share from hshU] at hLt
    have hln := fmod_in (a := drawn.fdiv 4) (b := 8) (by decide)
    have hWh := F.wh
    rw [show shareU drawn = share from hshU] at hWh
    generalize (drawn.fdiv 4).fmod 8 = lean at hLt hln hWh ⊢
    have hk1' : (k + 1).natAbs ≤ 1000 := by exact om_131 hk1 hk5
    have hrg0 : (8 * (k + 1) == 0) = false := beq_eq_false_iff_ne.mpr (by exact om_132 hk1 hk5)
    refine Ss.step ([("sums", some (.lst [.int sa, .int sb, .int sc])), ("drawn", some (.int drawn)), ("table", some (.inst 184 [("_headers", .v (.ref la))])), ("played", some (.tup [.lst (gs.map guyD), .lst (itemsD tl), .str u])), ("laid", some (.lst (itemsD tl))), ("found", some (.str u)), ("first", some (.int (first : Int))), ("move", none), ("sign", some (.str (signOf drawn))), ("late", some (.lst (itemsD (lateL nm (signOf drawn))))), ("lights", none), ("made", none), ("heights", none), ("red", none), ("green", none), ("blue", none), ("hue", none), ("told", none), ("value", none), ("spot", none), ("step", none)]) ([("script", some (.v (.ref l))), ("cards", some (.int cards)), ("share", some (.flt share)), ("lean", some (.int (lean))), ("guys", some (.lst (gs.map guyD))), ("turn", some (.int ((tl.length : Nat) : Int))), ("line", some (guyD u)), ("k", some (.int k)), ("more", some (.lst (moreDs tolds k tl.length))), ("tall", tallO tolds k tl.length), ("extra", some (.lst ((moreI (tAt tolds first) k).map D.int))), ("ring", some (.int (8 * (k + 1)))), ("wheel", none)]) ([(la, .list (itemsD (tl ++ lateL nm (signOf drawn))))]) ?_ ?_
    · (with_reducible refine' S1.asC ?_ ?z1091hl ?z1091hf ?z1091hs); (case z1091hl => kernel_rfl); (case z1091hf => rfl); (case z1091hs => rfl); (with_reducible refine Ev.bin ?_; refine Ev.int ?_; refine Ev.bin ?_; refine' Ev.cel ?z1095h ?_); (case z1095h => nest_cls); (with_reducible refine Ev.int ?_; refine Op2.addI ?_; refine' Op2.mulI ?z1098h ?_); (case z1098h => exact mulOkL (by decide)); (with_reducible refine put_11 ?_; refine' ⟨_, rfl, ?z1111k, ?_⟩); (case z1111k => kwd_rel)
      all_goals first | rfl | exact .refl
    refine Ss.step ([("sums", some (.lst [.int sa, .int sb, .int sc])), ("drawn", some (.int drawn)), ("table", some (.inst 184 [("_headers", .v (.ref la))])), ("played", some (.tup [.lst (gs.map guyD), .lst (itemsD tl), .str u])), ("laid", some (.lst (itemsD tl))), ("found", some (.str u)), ("first", some (.int (first : Int))), ("move", none), ("sign", some (.str (signOf drawn))), ("late", some (.lst (itemsD (lateL nm (signOf drawn))))), ("lights", some (.lst (ts0.map triD))), ("made", none), ("heights", none), ("red", none), ("green", none), ("blue", none), ("hue", none), ("told", none), ("value", none), ("spot", none), ("step", none)]) ([("script", some (.v (.ref l))), ("cards", some (.int cards)), ("share", some (.flt share)), ("lean", some (.int lean)), ("guys", some (.lst (gs.map guyD))), ("turn", some (.int ((tl.length : Nat) : Int))), ("line", some (guyD u)), ("k", some (.int k)), ("more", some (.lst (moreDs tolds k tl.length))), ("tall", tallO tolds k tl.length), ("extra", some (.lst ((moreI (tAt tolds first) k).map D.int))), ("ring", some (.int (8 * (k + 1)))), ("wheel", none)]) ([(la, .list (itemsD (tl ++ lateL nm (signOf drawn))))]) ?_ ?_
    · show S1 _ _ _ _ _ _ _ _
      refine' S1.asCompM [(".0", none), ("place", none)] [("lean", some (.int lean)), ("ring", some (.int (8 * (k + 1)))), ("share", some (.flt share)), ("k", some (.int k)), ("extra", some (.lst ((moreI (tAt tolds first) k).map D.int)))] (lightF ts0) hh ?hp ?hsw ?c1 ?c2 ?c3 ?c4 ?c5 ?c6 ?c7 ?_
      case hp => rfl
      case hsw => rfl
      case c1 => rfl
      case c2 => rfl
      case c3 => decide +kernel
      case c4 => decide +kernel
      case c5 => kernel_rfl
      case c6 => repeat (first | exact .nil | refine ck_cons (by nest_cls) (.inl (by kernel_rfl)) (by kernel_rfl) (by kernel_rfl) ?_)
      case c7 => exact fun _ => rfl
      (with_reducible refine' Ev.call ?_ ?z1112hp); (case z1112hp => intro _; rfl); (with_reducible refine' Ev.bui ?z1113h ?_ ?z1113hx); (case z1113h => with_reducible exact b_range _ _ _ _); (case z1113hx => kernel_rfl); (with_reducible refine' ⟨_, rfl, ?z1114k, ?_⟩); (case z1114k => with_reducible exact Kp.typ); (with_reducible refine' Evs.cons ?_ ?z1115he); (case z1115he => rfl); (with_reducible refine Ev.bin ?_; refine' Ev.cel ?z1117h ?_); (case z1117h => nest_cls); (with_reducible refine Ev.int ?_; refine Op2.addI ?_; refine Evs.nil ?_; refine Ca.range1 ?_; refine' getI_range ?z1122h ?z1122k (fun _ => ?_)); (case z1122h => decide); (case z1122k => exact om_133 hk1')
      refine ⟨_, _, rfl, fun L d hd' => ?_, ?_, ?_⟩
      · rw [Int.sub_zero] at hd'
        obtain ⟨i, hi, rfl⟩ := mem_rangeFrom1 hd'
        rw [Int.zero_add]
        intro O
        have hl0 := hLt.len
        have hx0 := hLt.exl
        have hi' : i < ts0.length := by exact om_134 hk1 hk5 hi hl0
        have i1 := hLt.inf1 i hi'
        have i2 := hLt.inf2 i hi'
        have mk := hLt.mkk i hi'
        have ef : lightF ts0 (.int (i : Int)) = some (triD (trAt ts0 i)) := by
          show some (triD (trAt ts0 ((i : Int)).toNat)) = _
          rw [Int.toNat_natCast]
        rw [ef]
        have hei : ((moreI (tAt tolds first) k).map D.int)[((i : Nat) : Int).toNat]? = some (.int ((moreI (tAt tolds first) k).getD i 0)) := by
          rw [Int.toNat_natCast, List.getElem?_map, List.getElem?_eq_getElem (by exact om_135 hl0 hx0 hi'), List.getD_eq_getElem?_getD, List.getElem?_eq_getElem (by exact om_135 hl0 hx0 hi')]; rfl
        have hei1 : ((i : Nat) : Int) < ((moreI (tAt tolds first) k).map D.int).length := by rw [List.length_map]; exact om_136 hl0 hx0 hi'
        have hib : ((i : Nat) : Int).natAbs ≤ 1000 := by exact om_137 hexl hei1
        have hz16 : Float64.isZero 4625196817309499392 = false := by decide +kernel
        (with_reducible refine As.loc ?_; refine put_1 ?_; refine Ifs.nil ?_; refine ite_t rfl ?_; refine' Ev.call ?_ ?z1128hp); (case z1128hp => intro _; rfl); (with_reducible refine' Ev.glo ?z1129h ?_ ?z1129hx); (case z1129h => with_reducible exact n_hsv_to_rgb _ _ _ _); (case z1129hx => kernel_rfl); (with_reducible refine' ⟨_, rfl, ?z1130k, ?_⟩); (case z1130k => with_reducible exact k_202 _ _ _ _); (with_reducible refine' Evs.cons ?_ ?z1131he); (case z1131he => rfl); (with_reducible refine Ev.bin ?_; refine Ev.bin ?_; refine Ev.bin ?_; refine Ev.int ?_; refine' Ev.loc ?z1136h ?_); (case z1136h => nest_cls); (with_reducible refine' Op2.mulI ?z1137h ?_); (case z1137h => exact mulOkL (by decide)); (with_reducible refine' Ev.cel ?z1138h ?_); (case z1138h => nest_cls); (with_reducible refine Op2.addI ?_; refine' Ev.cel ?z1140h ?_); (case z1140h => nest_cls); (with_reducible refine' Op2.divI ?z1141a ?z1141b ?_); (case z1141a => with_reducible assumption); (case z1141b => with_reducible assumption); (with_reducible refine' Evs.cons ?_ ?z1142he); (case z1142he => rfl); (with_reducible refine' Ev.cel ?z1143h ?_); (case z1143h => nest_cls); (with_reducible refine' Evs.cons ?_ ?z1144he); (case z1144he => rfl); (with_reducible refine Ev.bin ?_; refine Ev.bin ?_; refine Ev.bin ?_; refine Ev.bin ?_; refine' Ev.cel ?z1149h ?_); (case z1149h => nest_cls); (with_reducible refine' Ev.loc ?z1150h ?_); (case z1150h => nest_cls); (with_reducible refine Op2.subI ?_; refine Ev.sub ?_; refine' Ev.cel ?z1153h ?_); (case z1153h => nest_cls); (with_reducible refine' Ev.loc ?z1154h ?_); (case z1154h => nest_cls); (with_reducible refine' Op2.itemL ?z1155l ?z1155a ?z1155b ?z1155d ?_ ?z1155hs); (case z1155l => first | with_reducible exact LstOf.frz | ((with_reducible refine' LstOf.own ?z1155hm); (case z1155hm => nest_cls))); (case z1155a => exact om_97); (case z1155b => exact om_138 hexl hei1); (case z1155d => first | with_reducible assumption | rfl); (case z1155hs => intros; rfl); (with_reducible refine Op2.addI ?_; refine Ev.int ?_; refine Op2.addI ?_; refine Ev.flt ?_; refine' Op2.divIF ?z1160a ?z1160b ?_); (case z1160a => with_reducible assumption); (case z1160b => with_reducible assumption); (with_reducible refine Evs.nil ?_)
        refine Cal.ca (Cal.pure (c_hsv w mg mb os _ _ _ _ _ _ mk) fun d O' h => ⟨h.1, ?_⟩) room1
        rw [h.2]
        exact ⟨⟨rfl, rfl⟩, rfl, .keep (.drop .nil)⟩
      · rw [rangeFrom_len]; unfold sizeLine; exact om_139 hk1 hk5
      · rw [Int.sub_zero, lightF_eq ts0 (by have := hLt.len; exact om_140 hk1 hk5 this)]
        (with_reducible refine put_10 ?_; refine' ⟨_, rfl, ?z1173k, ?_⟩); (case z1173k => kwd_rel)
        all_goals first | rfl | exact .refl
    refine Ss.cons ?_
    refine' S1.forIn (σ := Nat × List Tri × Option D) (fun st => [("sums", some (.lst [.int sa, .int sb, .int sc])), ("drawn", some (.int drawn)), ("table", some (.inst 184 [("_headers", .v (.ref la))])), ("played", some (.tup [.lst (gs.map guyD), .lst (itemsD tl), .str u])), ("laid", some (.lst (itemsD tl))), ("found", some (.str u)), ("first", some (.int (first : Int))), ("move", none), ("sign", some (.str (signOf drawn))), ("late", some (.lst (itemsD (lateL nm (signOf drawn))))), ("lights", some (.lst (st.2.1.map triD))), ("made", none), ("heights", none), ("red", none), ("green", none), ("blue", none), ("hue", none), ("told", none), ("value", none), ("spot", none), ("step", none)]) (fun st => [("script", some (.v (.ref l))), ("cards", some (.int cards)), ("share", some (.flt share)), ("lean", some (.int lean)), ("guys", some (.lst (gs.map guyD))), ("turn", some (.int ((tl.length : Nat) : Int))), ("line", some (guyD u)), ("k", some (.int k)), ("more", some (.lst (moreDs tolds k tl.length))), ("tall", tallO tolds k tl.length), ("extra", some (.lst ((moreI (tAt tolds first) k).map D.int))), ("ring", some (.int (8 * (k + 1)))), ("wheel", st.2.2)]) (fun _ => [(la, .list (itemsD (tl ++ lateL nm (signOf drawn))))]) (fun st ds => ds = rangeFrom (st.1 : Int) 1 (tl.length + 1 - st.1) ∧ Wheel k lean (drawn.fdiv 32) share gs tl.length first st.1 st.2.1) hh ?_ ?_ ?_ ?hp ?hs
    case hp => rfl
    case hs => exact fun _ => rfl
    · (with_reducible refine' Ev.call ?_ ?z1174hp); (case z1174hp => intro _; rfl); (with_reducible refine' Ev.bui ?z1175h ?_ ?z1175hx); (case z1175h => with_reducible exact b_range _ _ _ _); (case z1175hx => kernel_rfl); (with_reducible refine' ⟨_, rfl, ?z1176k, ?_⟩); (case z1176k => with_reducible exact Kp.typ); (with_reducible refine' Evs.cons ?_ ?z1177he); (case z1177he => rfl); (with_reducible refine' Ev.loc ?z1178h ?_); (case z1178h => nest_cls); (with_reducible refine' Evs.cons ?_ ?z1179he); (case z1179he => rfl); (with_reducible refine Ev.bin ?_; refine' Ev.cel ?z1181h ?_); (case z1181h => nest_cls); (with_reducible refine Ev.int ?_; refine Op2.addI ?_; refine Evs.nil ?_; refine Ca.range2 ?_; refine' getI_range ?z1186h ?z1186k (fun _ => ?_)); (case z1186h => exact om_123 ht1 ht2 hlen hgl); (case z1186k => exact om_141 ht1 hlen hgl)
      refine ⟨(first, ts0, none), _, .refl, rfl, rfl, ?_, hWh⟩
      congr 1; omega
    · rintro I ⟨m, ts, wo⟩ d ds ⟨e, hW⟩
      dsimp only at e hW ⊢
      cases hW with
      | stop => rw [Nat.sub_self] at e; cases e
      | next hm hL hz1 hz2 hz3 hz4 hq hW =>
        rename_i ts' hs
        rw [show tl.length + 1 - m = (tl.length + 1 - (m + 1)) + 1 by exact om_143 hlen hgl hm] at e
        obtain ⟨rfl, rfl⟩ := List.cons.inj e
        clear e
        (with_reducible refine As.loc ?_; refine put_7 ?_; refine Ss.cons ?_; refine' S1.asL ?_ ?z1197hs); (case z1197hs => rfl)
        refine Ev.lstO ?_
        refine Evs.nil ⟨by decide, fun ma => ?_⟩
        (with_reducible refine put_11 ?_; refine Ss.cons ?_; refine' S1.asL ?_ ?z1211hs); (case z1211hs => rfl)
        refine Ev.lstO ?_
        refine Evs.nil ⟨by decide, fun ha => ?_⟩
        (with_reducible refine put_12 ?_)
        refine Ss.step ([("sums", some (.lst [.int sa, .int sb, .int sc])), ("drawn", some (.int drawn)), ("table", some (.inst 184 [("_headers", .v (.ref la))])), ("played", some (.tup [.lst (gs.map guyD), .lst (itemsD tl), .str u])), ("laid", some (.lst (itemsD tl))), ("found", some (.str u)), ("first", some (.int (first : Int))), ("move", some (.int (m : Int))), ("sign", some (.str (signOf drawn))), ("late", some (.lst (itemsD (lateL nm (signOf drawn))))), ("lights", some (.lst (ts.map triD))), ("made", some (.v (.ref ma))), ("heights", some (.v (.ref ha))), ("red", none), ("green", none), ("blue", none), ("hue", none), ("told", none), ("value", none), ("spot", none), ("step", none)]) ([("script", some (.v (.ref l))), ("cards", some (.int cards)), ("share", some (.flt share)), ("lean", some (.int lean)), ("guys", some (.lst (gs.map guyD))), ("turn", some (.int ((tl.length : Nat) : Int))), ("line", some (guyD u)), ("k", some (.int k)), ("more", some (.lst (moreDs tolds k tl.length))), ("tall", tallO tolds k tl.length), ("extra", some (.lst ((moreI (tAt tolds first) k).map D.int))), ("ring", some (.int (8 * (k + 1)))), ("wheel", wo)]) ([(ha, .list (hs.map D.int)), (ma, .list (ts'.map triD)), (I, .iter (rangeFrom ((m : Int) + 1) 1 (tl.length + 1 - (m + 1)))), (la, .list (itemsD (tl ++ lateL nm (signOf drawn))))]) ?_ ?_
        · have hrn : (8 * (k + 1)).natAbs < 1000 := by exact om_144 hk1 hk5
          have hrne : (8 * (k + 1)) ≠ 0 := by exact om_132 hk1 hk5
          have hz16 : Float64.isZero 4625196817309499392 = false := by decide +kernel
          refine' S1.forIn (σ := List Int × List Tri) (fun _ => [("sums", some (.lst [.int sa, .int sb, .int sc])), ("drawn", some (.int drawn)), ("table", some (.inst 184 [("_headers", .v (.ref la))])), ("played", some (.tup [.lst (gs.map guyD), .lst (itemsD tl), .str u])), ("laid", some (.lst (itemsD tl))), ("found", some (.str u)), ("first", some (.int (first : Int))), ("move", some (.int (m : Int))), ("sign", some (.str (signOf drawn))), ("late", some (.lst (itemsD (lateL nm (signOf drawn))))), ("lights", some (.lst (ts.map triD))), ("made", some (.v (.ref ma))), ("heights", some (.v (.ref ha))), ("red", none), ("green", none), ("blue", none), ("hue", none), ("told", none), ("value", none), ("spot", none), ("step", none)]) (fun _ => [("script", some (.v (.ref l))), ("cards", some (.int cards)), ("share", some (.flt share)), ("lean", some (.int lean)), ("guys", some (.lst (gs.map guyD))), ("turn", some (.int ((tl.length : Nat) : Int))), ("line", some (guyD u)), ("k", some (.int k)), ("more", some (.lst (moreDs tolds k tl.length))), ("tall", tallO tolds k tl.length), ("extra", some (.lst ((moreI (tAt tolds first) k).map D.int))), ("ring", some (.int (8 * (k + 1)))), ("wheel", wo)]) (fun st => [(ha, .list (st.1.map D.int)), (ma, .list (st.2.map triD)), (I, .iter (rangeFrom ((m : Int) + 1) 1 (tl.length + 1 - (m + 1)))), (la, .list (itemsD (tl ++ lateL nm (signOf drawn))))]) (fun st ds => ∃ ts2 hs2 ts2', ds = ts2.map triD ∧ LSteps k lean share ts2 hs2 ts2' ∧ st.1 ++ hs2 = hs ∧ st.2 ++ ts2' = ts' ∧ st.1.length + ts2.length ≤ 100 ∧ st.2.length + ts2.length ≤ 100) hh ?_ ?_ ?_ ?hp ?hs
          case hp => rfl
          case hs => exact fun _ => rfl
          · (with_reducible refine' Ev.loc ?z1225h ?_); (case z1225h => nest_cls); (with_reducible refine GetI.lst (fun _ => ?_))
            exact ⟨([], []), _, .refl, rfl, rfl, ts, hs, ts', rfl, hL, rfl, rfl, by simpa using hz1, by simpa using hz1⟩
          · rintro J ⟨h0, m0⟩ d ds ⟨ts2, hs2, ts2', e, hL2, e1, e2, e3, e4⟩
            dsimp only at e1 e2 e3 e4 ⊢
            cases hL2 with
            | nil => cases e
            | cons hS hL2 =>
              rename_i t t' y sp hv ts2 ts2' hs2
              obtain ⟨rfl, rfl⟩ := List.cons.inj e
              clear e
              rw [List.length_cons] at e3 e4
              have hts : ¬ (Float64.cmp y.2.1 share != some .eq) = true := by rw [hS.ts]; decide
              have hsl : ¬ ((sp.fmod (8 * (k + 1))).fmod 8 != lean) = true := by rw [hS.sl]; decide
              have hsi := hS.s
              have hhv := hS.hv
              have hi1 := hS.inf1
              have hi2 := hS.inf2
              have mk := hS.mkk
              (with_reducible refine' As.tup3 ?z1227hh ?_); (case z1227hh => with_reducible assumption); (with_reducible refine Asl.cons ?_; refine As.loc ?_; refine put_13 ?_; refine Asl.cons ?_; refine As.loc ?_; refine put_14 ?_; refine Asl.cons ?_; refine As.loc ?_; refine put_15 ?_; refine Asl.nil ?_; refine Ss.cons ?_; refine' S1.as1 ?_ ?z1281hs ?z1281hw ?z1281he); (case z1281hs => rfl); (case z1281hw => rfl); (case z1281he => rfl); (with_reducible refine' Ev.call ?_ ?z1282hp); (case z1282hp => intro _; rfl); (with_reducible refine' Ev.glo ?z1283h ?_ ?z1283hx); (case z1283h => with_reducible exact n_rgb_to_hsv _ _ _ _); (case z1283hx => kernel_rfl); (with_reducible refine' ⟨_, rfl, ?z1284k, ?_⟩); (case z1284k => with_reducible exact k_195 _ _ _ _); (with_reducible refine' Evs.cons ?_ ?z1285he); (case z1285he => rfl); (with_reducible refine' Ev.loc ?z1286h ?_); (case z1286h => nest_cls); (with_reducible refine' Evs.cons ?_ ?z1287he); (case z1287he => rfl); (with_reducible refine' Ev.loc ?z1288h ?_); (case z1288h => nest_cls); (with_reducible refine' Evs.cons ?_ ?z1289he); (case z1289he => rfl); (with_reducible refine' Ev.loc ?z1290h ?_); (case z1290h => nest_cls); (with_reducible refine Evs.nil ?_)
              refine Cal.ca (Cal.pure (c_rgb w mg mb os _ _ _ y.1 y.2.1 y.2.2 hS.r) fun d O' h => ⟨h.1, ?_⟩) room1
              rw [h.2]
              (with_reducible refine' As.tup3 ?z1292hh ?_); (case z1292hh => with_reducible assumption); (with_reducible refine Asl.cons ?_; refine As.loc ?_; refine put_16 ?_; refine Asl.cons ?_; refine As.loc ?_; refine put_17 ?_; refine Asl.cons ?_; refine As.loc ?_; refine put_18 ?_; refine Asl.nil ?_; refine Ss.cons ?_; refine' S1.asL ?_ ?z1355hs); (case z1355hs => rfl); (with_reducible refine Ev.bin ?_; refine' Ev.call ?_ ?z1357hp); (case z1357hp => intro _; rfl); (with_reducible refine' Ev.bui ?z1358h ?_ ?z1358hx); (case z1358h => with_reducible exact b_int _ _ _ _); (case z1358hx => kernel_rfl); (with_reducible refine' ⟨_, rfl, ?z1359k, ?_⟩); (case z1359k => with_reducible exact Kp.typ); (with_reducible refine' Evs.cons ?_ ?z1360he); (case z1360he => rfl); (with_reducible refine Ev.bin ?_; refine Ev.bin ?_; refine' Ev.loc ?z1363h ?_); (case z1363h => nest_cls); (with_reducible refine' Ev.cel ?z1364h ?_); (case z1364h => nest_cls); (with_reducible refine Op2.mulFI (fit3 (by with_reducible assumption)) ?_; refine Ev.flt ?_; refine Op2.addF ?_; refine Evs.nil ?_; refine Ca.intF (by with_reducible assumption) ?_; refine' Ev.cel ?z1370h ?_); (case z1370h => nest_cls); (with_reducible refine' Op2.modI ?z1371h ?_); (case z1371h => with_reducible assumption); (with_reducible refine put_19 ?_; refine Ss.cons ?_; refine S1.ite ?_; refine Te.bool ?_; refine Tes.or ?_; refine' Te.cmp ?_ ?z1396hm); (case z1396hm => rfl); (with_reducible refine' Ev.loc ?z1397h ?_); (case z1397h => nest_cls); (with_reducible refine' Ev.cel ?z1398h ?_); (case z1398h => nest_cls); (with_reducible refine Op2.neF ?_; refine Tr.bool ?_; refine ite_f (by with_reducible assumption) ?_; refine Tes.or ?_; refine' Te.cmp ?_ ?z1403hm); (case z1403hm => rfl); (with_reducible refine Ev.bin ?_; refine' Ev.loc ?z1405h ?_); (case z1405h => nest_cls); (with_reducible refine Ev.int ?_; refine' Op2.modI ?z1407h ?_); (case z1407h => decide); (with_reducible refine' Ev.cel ?z1408h ?_); (case z1408h => nest_cls); (with_reducible refine Op2.neI ?_; refine Tr.bool ?_; refine ite_f (by with_reducible assumption) ?_; refine Tes.orNil ?_; refine ite_f Bool.false_ne_true ?_; refine Ss.nil ?_; refine Ss.cons ?_; refine' S1.exprAny ?_ ?z1416hi ?z1416hs); (case z1416hi => rfl); (case z1416hs => rfl); (with_reducible refine' Ev.meth ?_ ?z1417hm ?z1417hp); (case z1417hm => exact ⟨_, rfl⟩); (case z1417hp => intro _; rfl); (with_reducible refine' Ev.loc ?z1418h ?_); (case z1418h => nest_cls)
              refine GetM.list (ds := h0.map D.int) (.own (by nest_cls)) slot_list_append (by first | exact type_list_append | exact PySem.F.type_list_append) ?_
              (with_reducible refine' And.intro ?z1419k ?_); (case z1419k => with_reducible exact Kp.bui); (with_reducible refine' Evs.cons ?_ ?z1420he); (case z1420he => rfl); (with_reducible refine Ev.bin ?_; refine' Ev.call ?_ ?z1422hp); (case z1422hp => intro _; rfl); (with_reducible refine' Ev.bui ?z1423h ?_ ?z1423hx); (case z1423h => with_reducible exact b_int _ _ _ _); (case z1423hx => kernel_rfl); (with_reducible refine' ⟨_, rfl, ?z1424k, ?_⟩); (case z1424k => with_reducible exact Kp.typ); (with_reducible refine' Evs.cons ?_ ?z1425he); (case z1425he => rfl); (with_reducible refine Ev.bin ?_; refine' Ev.loc ?z1427h ?_); (case z1427h => nest_cls); (with_reducible refine Ev.int ?_; refine Op2.mulFI (fit3 (by decide)) ?_; refine Evs.nil ?_; refine Ca.intF (by with_reducible assumption) ?_; refine Ev.int ?_; refine Op2.subI ?_; refine Evs.nil ?_; refine Ca.app1 ?_)
              refine Ca.append (ds := h0.map D.int) (.there .here) (by rw [List.length_map]; unfold sizeLine; exact om_145 e3) ?_
              have eh : h0.map D.int ++ [D.int (hv - 1)] = (h0 ++ [hv - 1]).map D.int := by rw [List.map_append]; rfl
              have em : m0.map triD ++ [triD t'] = (m0 ++ [t']).map triD := by rw [List.map_append]; rfl
              rw [eh]
              have hst : (if ((sp.fmod (8 * (k + 1))).fdiv 8 == k) = true then D.int k else D.int (-1)) = D.int (stepOf k (sp.fmod (8 * (k + 1)))) := by unfold stepOf; split <;> rfl
              (with_reducible refine Ss.cons ?_; refine' S1.asL ?_ ?z1437hs); (case z1437hs => rfl); (with_reducible refine Ev.ife ?_; refine' Te.cmp ?_ ?z1439hm); (case z1439hm => rfl); (with_reducible refine Ev.bin ?_; refine' Ev.loc ?z1441h ?_); (case z1441h => nest_cls); (with_reducible refine Ev.int ?_; refine' Op2.fdivI ?z1443h ?z1443k ?_); (case z1443h => decide); (case z1443k => decide); (with_reducible refine' Ev.cel ?z1444h ?_); (case z1444h => nest_cls); (with_reducible refine Op2.eqI ?_; refine Tr.bool ?_)
              refine ite_ev hst (fun Q q => ?_) (fun Q q => ?_) ?_
              · exact Ev.cel (by nest_cls) q
              · exact Ev.una (Ev.int (Op1.negI q))
              (with_reducible refine put_20 ?_; refine Ss.cons ?_; refine' S1.exprAny ?_ ?z1471hi ?z1471hs); (case z1471hi => rfl); (case z1471hs => rfl); (with_reducible refine' Ev.meth ?_ ?z1472hm ?z1472hp); (case z1472hm => exact ⟨_, rfl⟩); (case z1472hp => intro _; rfl); (with_reducible refine' Ev.loc ?z1473h ?_); (case z1473h => nest_cls)
              refine GetM.list (ds := m0.map triD) (.own (by nest_cls)) slot_list_append (by first | exact type_list_append | exact PySem.F.type_list_append) ?_
              (with_reducible refine' And.intro ?z1474k ?_); (case z1474k => with_reducible exact Kp.bui); (with_reducible refine' Evs.cons ?_ ?z1475he); (case z1475he => rfl); (with_reducible refine' Ev.call ?_ ?z1476hp); (case z1476hp => intro _; rfl); (with_reducible refine' Ev.glo ?z1477h ?_ ?z1477hx); (case z1477h => with_reducible exact n_hsv_to_rgb _ _ _ _); (case z1477hx => kernel_rfl); (with_reducible refine' ⟨_, rfl, ?z1478k, ?_⟩); (case z1478k => with_reducible exact k_202 _ _ _ _); (with_reducible refine' Evs.cons ?_ ?z1479he); (case z1479he => rfl); (with_reducible refine Ev.bin ?_; refine Ev.bin ?_; refine' Ev.loc ?z1482h ?_); (case z1482h => nest_cls); (with_reducible refine Ev.int ?_; refine Op2.addI ?_; refine' Ev.cel ?z1485h ?_); (case z1485h => nest_cls); (with_reducible refine' Op2.divI ?z1486a ?z1486b ?_); (case z1486a => with_reducible assumption); (case z1486b => with_reducible assumption); (with_reducible refine' Evs.cons ?_ ?z1487he); (case z1487he => rfl); (with_reducible refine' Ev.loc ?z1488h ?_); (case z1488h => nest_cls); (with_reducible refine' Evs.cons ?_ ?z1489he); (case z1489he => rfl); (with_reducible refine Ev.bin ?_; refine' Ev.loc ?z1491h ?_); (case z1491h => nest_cls); (with_reducible refine Ev.bin ?_; refine' Ev.loc ?z1493h ?_); (case z1493h => nest_cls); (with_reducible refine Ev.flt ?_; refine' Op2.divIF ?z1495a ?z1495b ?_); (case z1495a => with_reducible assumption); (case z1495b => with_reducible assumption); (with_reducible refine Op2.addF ?_; refine Evs.nil ?_)
              refine Cal.ca (Cal.pure (c_hsv w mg mb os _ _ _ _ _ _ mk) fun d O' h => ⟨h.1, ?_⟩) room1
              rw [h.2]
              (with_reducible refine Evs.nil ?_; refine Ca.app1 ?_)
              refine Ca.append (ds := m0.map triD) (.there (.there .here)) (by rw [List.length_map]; unfold sizeLine; exact om_146 e3 e4) ?_
              rw [em]
              (with_reducible refine Ss.nil ?_)
              refine ⟨(h0 ++ [hv - 1], m0 ++ [t']), .keep (.keep (.keep (.keep (.keep (.keep (.keep (.keep (.keep (.keep (.keep (.keep (.keep (.drop (.drop (.drop (.drop (.drop (.drop (.drop (.drop (.nil))))))))))))))))))))), rfl, .refl, ts2, hs2, ts2', rfl, hL2, by rw [List.append_assoc]; exact e1, by rw [List.append_assoc]; exact e2, by rw [List.length_append]; show _ + 1 + _ ≤ _; exact om_147 e3, by rw [List.length_append]; show _ + 1 + _ ≤ _; exact om_147 e4⟩
          · rintro ⟨h0, m0⟩ ⟨ts2, hs2, ts2', e, hL2, e1, e2, e3, e4⟩
            dsimp only at e1 e2 ⊢
            cases hL2 with
            | cons hS hL2 => cases e
            | nil =>
              rw [List.append_nil] at e1 e2
              subst e1 e2
              exact ⟨rfl, rfl, rfl, .refl⟩
        refine Exs.frz (a := ha) (xs := hs.map D.int) (P := [(ma, .list (ts'.map triD)), (I, .iter (rangeFrom ((m : Int) + 1) 1 (tl.length + 1 - (m + 1)))), (la, .list (itemsD (tl ++ lateL nm (signOf drawn))))]) (ρ' := [("sums", some (.lst [.int sa, .int sb, .int sc])), ("drawn", some (.int drawn)), ("table", some (.inst 184 [("_headers", .v (.ref la))])), ("played", some (.tup [.lst (gs.map guyD), .lst (itemsD tl), .str u])), ("laid", some (.lst (itemsD tl))), ("found", some (.str u)), ("first", some (.int (first : Int))), ("move", some (.int (m : Int))), ("sign", some (.str (signOf drawn))), ("late", some (.lst (itemsD (lateL nm (signOf drawn))))), ("lights", some (.lst (ts.map triD))), ("made", some (.v (.ref ma))), ("heights", some (.lst (hs.map D.int))), ("red", none), ("green", none), ("blue", none), ("hue", none), ("told", none), ("value", none), ("spot", none), ("step", none)]) (κ' := [("script", some (.v (.ref l))), ("cards", some (.int cards)), ("share", some (.flt share)), ("lean", some (.int lean)), ("guys", some (.lst (gs.map guyD))), ("turn", some (.int ((tl.length : Nat) : Int))), ("line", some (guyD u)), ("k", some (.int k)), ("more", some (.lst (moreDs tolds k tl.length))), ("tall", tallO tolds k tl.length), ("extra", some (.lst ((moreI (tAt tolds first) k).map D.int))), ("ring", some (.int (8 * (k + 1)))), ("wheel", wo)]) .refl (.keep (.keep (.keep (.keep (.keep (.keep (.keep (.keep (.keep (.keep (.keep (.keep (.frz .refl))))))))))))) .refl ?_
        refine Ss.step ([("sums", some (.lst [.int sa, .int sb, .int sc])), ("drawn", some (.int drawn)), ("table", some (.inst 184 [("_headers", .v (.ref la))])), ("played", some (.tup [.lst (gs.map guyD), .lst (itemsD tl), .str u])), ("laid", some (.lst (itemsD tl))), ("found", some (.str u)), ("first", some (.int (first : Int))), ("move", some (.int (m : Int))), ("sign", some (.str (signOf drawn))), ("late", some (.lst (itemsD (lateL nm (signOf drawn))))), ("lights", some (.lst (ts.map triD))), ("made", some (.v (.ref ma))), ("heights", some (.lst (hs.map D.int))), ("red", none), ("green", none), ("blue", none), ("hue", none), ("told", none), ("value", none), ("spot", none), ("step", none)]) ([("script", some (.v (.ref l))), ("cards", some (.int cards)), ("share", some (.flt share)), ("lean", some (.int lean)), ("guys", some (.lst (gs.map guyD))), ("turn", some (.int ((tl.length : Nat) : Int))), ("line", some (guyD u)), ("k", some (.int k)), ("more", some (.lst (moreDs tolds k tl.length))), ("tall", tallO tolds k tl.length), ("extra", some (.lst ((moreI (tAt tolds first) k).map D.int))), ("ring", some (.int (8 * (k + 1)))), ("wheel", some (guyD (leadP (drawn.fdiv 32) (tallOnly hs) 0 "")))]) ([(ma, .list (ts'.map triD)), (I, .iter (rangeFrom ((m : Int) + 1) 1 (tl.length + 1 - (m + 1)))), (la, .list (itemsD (tl ++ lateL nm (signOf drawn))))]) ?_ ?_
        · (with_reducible refine' S1.asC ?_ ?z1568hl ?z1568hf ?z1568hs); (case z1568hl => kernel_rfl); (case z1568hf => rfl); (case z1568hs => rfl); (with_reducible refine' Ev.call ?_ ?z1569hp); (case z1569hp => intro _; rfl); (with_reducible refine' Ev.glo ?z1570h ?_ ?z1570hx); (case z1570h => with_reducible exact n_Whitespace _ _ _ _); (case z1570hx => kernel_rfl); (with_reducible refine' ⟨_, rfl, ?z1571k, ?_⟩); (case z1571k => with_reducible exact k_264 _ _ _ _); (with_reducible refine' Evs.cons ?_ ?z1572he); (case z1572he => rfl); (with_reducible refine' Ev.call ?_ ?z1573hp); (case z1573hp => intro _; rfl); (with_reducible refine' Ev.glo ?z1574h ?_ ?z1574hx); (case z1574h => with_reducible exact n__law_lead _ _ _ _); (case z1574hx => kernel_rfl); (with_reducible refine' ⟨_, rfl, ?z1575k, ?_⟩); (case z1575k => with_reducible exact k_282 _ _ _ _); (with_reducible refine' Evs.cons ?_ ?z1576he); (case z1576he => rfl)
          refine' Ev.compM [(".0", none), ("height", none)] [] (intF fun h => decide (h > 0)) hh ?hp ?c1 ?c2 ?c3 ?c4 ?c5 ?c6 ?c7 ?_
          case hp => rfl
          case c1 => rfl
          case c2 => rfl
          case c3 => decide +kernel
          case c4 => decide +kernel
          case c5 => kernel_rfl
          case c6 => repeat (first | exact .nil | refine ck_cons (by nest_cls) (.inl (by kernel_rfl)) (by kernel_rfl) (by kernel_rfl) ?_)
          case c7 => exact fun _ => rfl
          (with_reducible refine' Ev.loc ?z1577h ?_); (case z1577h => nest_cls); (with_reducible refine GetI.lst (fun _ => ?_))
          refine ⟨_, _, rfl, fun L d hd' => ?_, ?_, ?_⟩
          · obtain ⟨x, hx, rfl⟩ := List.mem_map.mp hd'
            intro O
            (with_reducible refine As.loc ?_; refine put_1 ?_; refine Ifs.one ?_; refine' Te.cmp ?_ ?z1583hm); (case z1583hm => rfl); (with_reducible refine' Ev.loc ?z1584h ?_); (case z1584h => nest_cls); (with_reducible refine Ev.int ?_; refine Op2.gtI ?_; refine Tr.bool ?_)
            by_cases c : decide (x > 0) = true
            · rw [intF_pos (c := fun h => decide (h > 0)) c]
              (with_reducible refine ite_t (by with_reducible assumption) ?_; refine' Ev.loc ?z1589h ?_); (case z1589h => nest_cls)
              exact ⟨⟨rfl, rfl⟩, rfl, .keep (.drop .nil)⟩
            · rw [intF_neg (c := fun h => decide (h > 0)) c]
              (with_reducible refine ite_f (by with_reducible assumption) ?_)
              exact ⟨⟨rfl, rfl⟩, rfl, .keep (.drop .nil)⟩
          · rw [List.length_map, LSteps_len hL]; unfold sizeLine; exact om_148 hz1
          · rw [intF_eq, show (hs.filter fun h => decide (h > 0)) = tallOnly hs from rfl]
            (with_reducible refine' Evs.cons ?_ ?z1600he); (case z1600he => rfl); (with_reducible refine Ev.bin ?_; refine' Ev.loc ?z1602h ?_); (case z1602h => nest_cls); (with_reducible refine Ev.int ?_; refine' Op2.fdivI ?z1604h ?z1604k ?_); (case z1604h => decide); (case z1604k => decide); (with_reducible refine Evs.nil ?_)
            refine Cal.ca (Cal.mono (c_lead w mg mb os _ (.lst ((tallOnly hs).map D.int)) (tallOnly hs) (drawn.fdiv 32) .frz hz2 hz3) fun d O' hd => ?_) room1
            obtain ⟨hos, rfl⟩ := hd
            (with_reducible refine Evs.nil ?_)
            refine Ca.weak hos ?_
            refine ws_ca w mg mb os room2 (Nat.le_trans hz4 (by decide)) ?_
            (with_reducible refine put_12 ?_; refine' ⟨_, rfl, ?z1620k, ?_⟩); (case z1620k => kwd_rel)
            all_goals first | rfl | exact .refl
        refine Ss.same ([(ma, .list (ts'.map triD)), (I, .iter (rangeFrom ((m : Int) + 1) 1 (tl.length + 1 - (m + 1)))), (la, .list (itemsD (tl ++ lateL nm (signOf drawn))))]) ?_ ?_
        · (with_reducible refine S1.ite ?_; refine' Te.cmp ?_ ?z1622hm); (case z1622hm => rfl)
          refine' Ev.compM [(".0", none), ("early", none)] [("guys", some (.lst (gs.map guyD))), ("wheel", some (guyD (leadP (drawn.fdiv 32) (tallOnly hs) 0 "")))] (pickF fun e => eqG (gAt gs e) (leadP (drawn.fdiv 32) (tallOnly hs) 0 "")) hh ?hp ?c1 ?c2 ?c3 ?c4 ?c5 ?c6 ?c7 ?_
          case hp => rfl
          case c1 => rfl
          case c2 => rfl
          case c3 => decide +kernel
          case c4 => decide +kernel
          case c5 => kernel_rfl
          case c6 => repeat (first | exact .nil | refine ck_cons (by nest_cls) (.inl (by kernel_rfl)) (by kernel_rfl) (by kernel_rfl) ?_)
          case c7 => exact fun _ => rfl
          (with_reducible refine' Ev.call ?_ ?z1623hp); (case z1623hp => intro _; rfl); (with_reducible refine' Ev.bui ?z1624h ?_ ?z1624hx); (case z1624h => with_reducible exact b_range _ _ _ _); (case z1624hx => kernel_rfl); (with_reducible refine' ⟨_, rfl, ?z1625k, ?_⟩); (case z1625k => with_reducible exact Kp.typ); (with_reducible refine' Evs.cons ?_ ?z1626he); (case z1626he => rfl); (with_reducible refine' Ev.cel ?z1627h ?_); (case z1627h => nest_cls); (with_reducible refine Evs.nil ?_; refine Ca.range1 ?_; refine' getI_range ?z1630h ?z1630k (fun _ => ?_)); (case z1630h => decide); (case z1630k => exact om_94 ht1 hlen hgl)
          refine ⟨_, _, rfl, fun L d hd' => ?_, ?_, ?_⟩
          · rw [Int.sub_zero, Int.toNat_natCast] at hd'
            obtain ⟨i, hi, rfl⟩ := mem_rangeFrom1 hd'
            rw [Int.zero_add]
            intro O
            have hgi := gs_at (gs := gs) (m := i) (by exact om_95 hlen hgl hi)
            have hgi1 : ((i : Nat) : Int) < (gs.map guyD).length := by rw [List.length_map]; exact om_96 hlen hgl hi
            (with_reducible refine As.loc ?_; refine put_1 ?_; refine Ifs.one ?_; refine' Te.val ?_ ?z1635he); (case z1635he => rfl); (with_reducible refine' Ev.meth ?_ ?z1636hm ?z1636hp); (case z1636hm => exact ⟨_, rfl⟩); (case z1636hp => intro _; rfl); (with_reducible refine Ev.sub ?_; refine' Ev.cel ?z1638h ?_); (case z1638h => nest_cls); (with_reducible refine' Ev.loc ?z1639h ?_); (case z1639h => nest_cls); (with_reducible refine' Op2.itemL ?z1640l ?z1640a ?z1640b ?z1640d ?_ ?z1640hs); (case z1640l => first | with_reducible exact LstOf.frz | ((with_reducible refine' LstOf.own ?z1640hm); (case z1640hm => nest_cls))); (case z1640a => exact om_97); (case z1640b => exact om_98 ht1 ht2 hlen hgl hi); (case z1640d => first | with_reducible assumption | rfl); (case z1640hs => intros; rfl); (with_reducible refine' meth264 ?z1641hf ?z1641ht ?z1641o ?z1641hs ?_); (case z1641hf => with_reducible exact m_240 _ _ _ _); (case z1641ht => with_reducible exact ty_240 _ _ _ _); (case z1641o => with_reducible exact ObjOf.frz); (case z1641hs => kernel_rfl); (with_reducible refine' And.intro ?z1642k ?_); (case z1642k => with_reducible exact k_240 _ _ _ _); (with_reducible refine' Evs.cons ?_ ?z1643he); (case z1643he => rfl); (with_reducible refine' Ev.cel ?z1644h ?_); (case z1644h => nest_cls); (with_reducible refine Evs.nil ?_; refine Ca.app1 ?_)
            refine eq_ca room1 ?_
            by_cases c : eqG (gAt gs i) (leadP (drawn.fdiv 32) (tallOnly hs) 0 "") = true
            · rw [pickF_pos (c := fun e => eqG (gAt gs e) (leadP (drawn.fdiv 32) (tallOnly hs) 0 "")) c]
              rw [c]
              (with_reducible refine Tr.bool ?_; refine ite_t rfl ?_; refine' Ev.loc ?z1649h ?_); (case z1649h => nest_cls)
              exact ⟨⟨rfl, rfl⟩, rfl, .keep (.drop .nil)⟩
            · rw [pickF_neg (c := fun e => eqG (gAt gs e) (leadP (drawn.fdiv 32) (tallOnly hs) 0 "")) c]
              rw [Bool.eq_false_iff.mpr c]
              (with_reducible refine Tr.bool ?_; refine ite_f Bool.false_ne_true ?_)
              exact ⟨⟨rfl, rfl⟩, rfl, .keep (.drop .nil)⟩
          · rw [rangeFrom_len]; unfold sizeLine; exact om_101 ht1 hlen hgl
          · rw [pickF_rng, hq]
            refine Ev.lst ?_
            (with_reducible refine' Evs.cons ?_ ?z1668he); (case z1668he => rfl); (with_reducible refine Ev.ife ?_; refine' Te.cmp ?_ ?z1670hm); (case z1670hm => rfl); (with_reducible refine' Ev.loc ?z1671h ?_); (case z1671h => nest_cls); (with_reducible refine' Ev.cel ?z1672h ?_); (case z1672h => nest_cls); (with_reducible refine Op2.ltI ?_; refine Tr.bool ?_)
            by_cases cm : decide ((m : Int) < ((tl.length : Nat) : Int)) = true
            · rw [if_pos (show m < tl.length by have := of_decide_eq_true cm; exact om_149 hlen hgl this)]
              (with_reducible refine ite_t (by with_reducible assumption) ?_; refine' Ev.loc ?z1676h ?_); (case z1676h => nest_cls); (with_reducible refine Evs.nil ?_; refine And.intro (Nat.le_of_ble_eq_true rfl) ?_)
              refine Op2.neIL (l := natI [m]) (m := [(m : Int)]) hu ?_
              rw [show (!(natI [m] == [(m : Int)])) = false by simp [natI]]
              (with_reducible refine Tr.bool ?_; refine ite_f Bool.false_ne_true ?_; refine Ss.nil ?_; refine' ⟨_, rfl, ?z1682k, ?_⟩); (case z1682k => kwd_rel)
              all_goals first | rfl | exact .refl
            · rw [if_neg (show ¬ m < tl.length from fun h => cm (decide_eq_true (by exact om_122 hlen hgl h)))]
              (with_reducible refine ite_f (by with_reducible assumption) ?_; refine' Ev.loc ?z1691h ?_); (case z1691h => nest_cls); (with_reducible refine Evs.nil ?_; refine And.intro (Nat.le_of_ble_eq_true rfl) ?_)
              refine Op2.neIL (l := natI [first]) (m := [(first : Int)]) hu ?_
              rw [show (!(natI [first] == [(first : Int)])) = false by simp [natI]]
              (with_reducible refine Tr.bool ?_; refine ite_f Bool.false_ne_true ?_; refine Ss.nil ?_; refine' ⟨_, rfl, ?z1697k, ?_⟩); (case z1697k => kwd_rel)
              all_goals first | rfl | exact .refl
        refine Ss.step ([("sums", some (.lst [.int sa, .int sb, .int sc])), ("drawn", some (.int drawn)), ("table", some (.inst 184 [("_headers", .v (.ref la))])), ("played", some (.tup [.lst (gs.map guyD), .lst (itemsD tl), .str u])), ("laid", some (.lst (itemsD tl))), ("found", some (.str u)), ("first", some (.int (first : Int))), ("move", some (.int (m : Int))), ("sign", some (.str (signOf drawn))), ("late", some (.lst (itemsD (lateL nm (signOf drawn))))), ("lights", some (.v (.ref ma))), ("made", some (.v (.ref ma))), ("heights", some (.lst (hs.map D.int))), ("red", none), ("green", none), ("blue", none), ("hue", none), ("told", none), ("value", none), ("spot", none), ("step", none)]) ([("script", some (.v (.ref l))), ("cards", some (.int cards)), ("share", some (.flt share)), ("lean", some (.int lean)), ("guys", some (.lst (gs.map guyD))), ("turn", some (.int ((tl.length : Nat) : Int))), ("line", some (guyD u)), ("k", some (.int k)), ("more", some (.lst (moreDs tolds k tl.length))), ("tall", tallO tolds k tl.length), ("extra", some (.lst ((moreI (tAt tolds first) k).map D.int))), ("ring", some (.int (8 * (k + 1)))), ("wheel", some (guyD (leadP (drawn.fdiv 32) (tallOnly hs) 0 "")))]) ([(ma, .list (ts'.map triD)), (I, .iter (rangeFrom ((m : Int) + 1) 1 (tl.length + 1 - (m + 1)))), (la, .list (itemsD (tl ++ lateL nm (signOf drawn))))]) ?_ ?_
        · (with_reducible refine' S1.asL ?_ ?z1698hs); (case z1698hs => rfl); (with_reducible refine' Ev.loc ?z1699h ?_); (case z1699h => nest_cls); (with_reducible refine put_10 ?_; refine' ⟨_, rfl, ?z1711k, ?_⟩); (case z1711k => kwd_rel)
          all_goals first | rfl | exact .refl
        refine Exs.frz (a := ma) (xs := ts'.map triD) (P := [(I, .iter (rangeFrom ((m : Int) + 1) 1 (tl.length + 1 - (m + 1)))), (la, .list (itemsD (tl ++ lateL nm (signOf drawn))))]) (ρ' := [("sums", some (.lst [.int sa, .int sb, .int sc])), ("drawn", some (.int drawn)), ("table", some (.inst 184 [("_headers", .v (.ref la))])), ("played", some (.tup [.lst (gs.map guyD), .lst (itemsD tl), .str u])), ("laid", some (.lst (itemsD tl))), ("found", some (.str u)), ("first", some (.int (first : Int))), ("move", some (.int (m : Int))), ("sign", some (.str (signOf drawn))), ("late", some (.lst (itemsD (lateL nm (signOf drawn))))), ("lights", some (.lst (ts'.map triD))), ("made", some (.lst (ts'.map triD))), ("heights", some (.lst (hs.map D.int))), ("red", none), ("green", none), ("blue", none), ("hue", none), ("told", none), ("value", none), ("spot", none), ("step", none)]) (κ' := [("script", some (.v (.ref l))), ("cards", some (.int cards)), ("share", some (.flt share)), ("lean", some (.int lean)), ("guys", some (.lst (gs.map guyD))), ("turn", some (.int ((tl.length : Nat) : Int))), ("line", some (guyD u)), ("k", some (.int k)), ("more", some (.lst (moreDs tolds k tl.length))), ("tall", tallO tolds k tl.length), ("extra", some (.lst ((moreI (tAt tolds first) k).map D.int))), ("ring", some (.int (8 * (k + 1)))), ("wheel", some (guyD (leadP (drawn.fdiv 32) (tallOnly hs) 0 "")))]) .refl (.keep (.keep (.keep (.keep (.keep (.keep (.keep (.keep (.keep (.keep (.frz (.frz (.keep (.keep (.keep (.keep (.keep (.keep (.keep (.keep (.keep (.nil)))))))))))))))))))))) .refl ?_
        refine Ss.nil ?_
        exact ⟨(m + 1, ts', some (guyD (leadP (drawn.fdiv 32) (tallOnly hs) 0 ""))), .keep (.keep (.keep (.keep (.keep (.keep (.keep (.drop (.keep (.keep (.keep (.drop (.drop (.keep (.keep (.keep (.keep (.keep (.keep (.keep (.keep (.nil))))))))))))))))))))), rfl, .refl, rfl, hW⟩
    · rintro ⟨m, ts, wo⟩ ⟨e, hW⟩
      (with_reducible refine Ss.cons ?_; refine S1.ret ?_; refine Ev.bool ?_)
      exact ⟨_, .ret, rfl⟩
end
end Lw
end
section
namespace Lw
open PySem PySem.Calls PyProof.Rows PySem.W
noncomputable abbrev NotIn (code : Array Nat) (c : Nat) : Prop := ∀ seen, ∃ seen', Sre.inSet code c code.size 5 true seen = .ok (false, seen')
theorem admitted_none (m : Sre.M) (h : ∀ i, i < m.lim → NotIn m.code (m.text.getD i 0)) : ∀ fuel s seen, ∃ seen', Sre.M.admitted m fuel s seen = .ok (none, seen')
  | 0, s, seen => ⟨seen, rfl⟩
  | fuel + 1, s, seen => by
    unfold Sre.M.admitted
    by_cases c : s ≥ m.lim
    · rw [if_pos c]; exact ⟨seen, rfl⟩
    · rw [if_neg c]
      obtain ⟨seen', e⟩ := h s (Nat.lt_of_not_le c) seen
      rw [e]
      exact admitted_none m h fuel (s + 1) seen'
theorem runFor_end (m : Sre.M) (h1 : m.answer = some false) (h2 : m.frames = []) (h3 : m.outcome = none) : (m.runFor Builtin.Re.reTurnSteps).outcome = some .failed := by
  have e1 : m.step = { m with outcome := some .failed } := by
    unfold Sre.M.step
    rw [h3]
    simp only [Option.isSome_none, Bool.false_eq_true, if_false]
    rw [h1, h2]
    rfl
  have : ∀ n, Sre.M.runFor (n + 1) m = Sre.M.runFor n m.step := fun n => by
    show (if m.outcome.isSome then m else Sre.M.runFor n m.step) = _
    rw [h3]; rfl
  show (Sre.M.runFor (3 + 1) m).outcome = _
  rw [this, e1]
  rfl
theorem noHit_of {code : Array Nat} {x : Str} (hz : x.cps.size ≤ 1000000) (hf : ((match Sre.ops[code.getD 0 0]? with | some .INFO => true | _ => false) && code.getD 2 0 == 4) = true) (h : ∀ c ∈ x.cps.toList, NotIn code c) : noHit code x = true := by
  unfold noHit
  rw [Bool.and_eq_true]
  refine ⟨decide_eq_true hz, ?_⟩
  have hadm : ∀ m : Sre.M, m.code = code → m.text = x.cps → m.lim = x.cps.size → ∀ fuel s seen, ∃ seen', Sre.M.admitted m fuel s seen = .ok (none, seen') := fun m e1 e2 e3 => admitted_none m fun i hi => by
    rw [e1, e2]
    rw [e3] at hi
    refine h _ ?_
    rw [Array.getD_eq_getD_getElem?, Array.getElem?_eq_getElem hi]
    exact Array.getElem_mem_toList hi
  have hadm' : ∀ {m : Sre.M} {fuel s : Nat} {seen : Sre.Seen} {r : Except String (Option Nat × Sre.Seen)}, Sre.M.admitted m fuel s seen = r → m.code = code → m.text = x.cps → m.lim = x.cps.size → ∃ seen', r = .ok (none, seen') := fun {m fuel s seen r} e e1 e2 e3 => by
    obtain ⟨q, hq⟩ := hadm m e1 e2 e3 fuel s seen
    exact ⟨q, e.symm.trans hq⟩
  have key : (Sre.forSearch code x.cps 0 0 x.cps.size false).answer = some false ∧ (Sre.forSearch code x.cps 0 0 x.cps.size false).frames = [] ∧ (Sre.forSearch code x.cps 0 0 x.cps.size false).outcome = none := by
    unfold Sre.forSearch
    dsimp only
    split
    · exact ⟨rfl, rfl, rfl⟩
    · unfold Sre.M.attemptFrom
      rw [if_neg (by
        show ¬ (!((match Sre.ops[code.getD 0 0]? with | some .INFO => true | _ => false) && code.getD 2 0 == 4)) = true
        rw [hf]; decide)]
      split
      · rename_i s seen e
        obtain ⟨q, hq⟩ := hadm' e rfl rfl rfl
        cases hq
      · exact ⟨rfl, rfl, rfl⟩
      · rename_i why e
        obtain ⟨q, hq⟩ := hadm' e rfl rfl rfl
        cases hq
  obtain ⟨k1, k2, k3⟩ := key
  show sreFails (2999 + 1) _ = true
  unfold sreFails
  rw [runFor_end _ k1 k2 k3]
theorem notIn_N {c : Nat} (h1 : 31 < c) (h2 : c ≠ 127) : NotIn codeN c := fun seen => by
  refine ⟨((seen.add 22).add 16).add 0, ?_⟩
  have e : Sre.inSet codeN c codeN.size 5 true seen = if (decide (0 ≤ c) && decide (c ≤ 31)) = true then .ok (true, seen.add 22) else if (c == 127) = true then .ok (true, (seen.add 22).add 16) else .ok (!true, ((seen.add 22).add 16).add 0) := by kernel_rfl
  rw [e, if_neg (by simp; exact om_192 h1), if_neg (by simp; exact h2)]; rfl
theorem notIn_V {c : Nat} (h : c = 9 ∨ c = 32 ∨ c = 120) : NotIn codeV c := fun seen => by
  rcases h with rfl | rfl | rfl <;> exact ⟨(seen.add 9).add 0, by kernel_rfl⟩
end Lw
end
section
namespace Lw
open PySem PySem.Calls PyProof.Rows PySem.W
noncomputable def runL (b : Nat) : List Nat := List.replicate b 32 ++ [9]
theorem wsGo_blank (rest : List Nat) : ∀ (m : Nat) (n nt b : Int) (cnt : List Int), wsGo (List.replicate m 32 ++ rest) n nt b cnt = wsGo rest (n + m) nt (b + m) cnt
  | 0, n, nt, b, cnt => by simp
  | m + 1, n, nt, b, cnt => by
    rw [List.replicate_succ, List.cons_append, wsGo, if_pos (by decide : ((32 : Nat) == 32) = true), wsGo_blank rest m]
    congr 1 <;> exact om_193
theorem wsGo_run (b : Nat) (rest : List Nat) (n nt : Int) (cnt : List Int) : wsGo (runL b ++ rest) n nt 0 cnt = wsGo rest (n + b + 1) (nt + 1) 0 (bump b (grown b cnt)) := by
  unfold runL
  rw [List.append_assoc, wsGo_blank, List.cons_append, List.nil_append, wsGo, if_neg (by decide), if_pos (by decide : ((9 : Nat) == 9) = true), Int.zero_add, Int.toNat_natCast]
theorem foldl_app (a : Array Nat) : ∀ (m : Nat) (acc : Array Nat), ((List.replicate m a).foldl (· ++ ·) acc).toList = acc.toList ++ (List.replicate m a.toList).flatten
  | 0, acc => by simp
  | m + 1, acc => by rw [List.replicate_succ, List.foldl_cons, foldl_app a m, Array.toList_append, List.replicate_succ, List.flatten_cons, List.append_assoc]
theorem mul_list (x : Str) (n : Int) : (Txt.mul x n).cps.toList = (List.replicate n.toNat x.cps.toList).flatten := by
  unfold Txt.mul
  split
  · rename_i h
    rw [show n.toNat = 0 by exact om_194 h]; rfl
  · split
    · rename_i h1 h2
      rw [Bool.or_eq_true] at h2
      rcases h2 with h2 | h2
      · rw [eq_of_beq h2]; simp
      · have : x.cps.toList = [] := by
          have := eq_of_beq h2
          have h3 : x.cps.size = 0 := this
          rw [← List.length_eq_zero_iff, Array.length_toList]; exact h3
        rw [this]
        have : ∀ m : Nat, (List.replicate m ([] : List Nat)).flatten = [] := by
          intro m; induction m with
          | zero => rfl
          | succ m ih => rw [List.replicate_succ, List.flatten_cons, ih]; rfl
        rw [this]
    · exact (foldl_app _ _ _).trans (by simp)
theorem app_list (x y : Str) : (x ++ y).cps.toList = x.cps.toList ++ y.cps.toList := Array.toList_append

noncomputable def addC (b : Nat) (c : List Int) : List Int := bump b (grown b c)
theorem addC_len (b : Nat) (c : List Int) : (addC b c).length = max c.length (b + 1) := by
  unfold addC bump
  rw [List.length_set]
  unfold grown
  split
  · rw [List.length_append, List.length_replicate]; exact om_195 ‹_›
  · exact om_196 ‹_›
theorem grown_get (b : Nat) (c : List Int) (i : Nat) : (grown b c).getD i 0 = c.getD i 0 := by
  unfold grown
  split
  · rw [List.getD_eq_getElem?_getD, List.getD_eq_getElem?_getD]
    by_cases h : i < c.length
    · rw [List.getElem?_append_left h]
    · rw [List.getElem?_append_right (by exact om_197 h), List.getElem?_eq_none (l := c) (by exact om_197 h)]
      by_cases h2 : i - c.length < ((b : Int) - c.length + 1).toNat
      · rw [List.getElem?_replicate, if_pos h2]; rfl
      · rw [List.getElem?_replicate, if_neg h2]
  · rfl
theorem addC_get (b : Nat) (c : List Int) (i : Nat) : (addC b c).getD i 0 = c.getD i 0 + if i = b then 1 else 0 := by
  have hb : b < (grown b c).length := by
    have h1 := addC_len b c
    unfold addC bump at h1
    rw [List.length_set] at h1
    exact om_198 h1
  unfold addC bump
  rw [List.getD_eq_getElem?_getD, List.getElem?_set]
  by_cases h : b = i
  · subst h
    rw [if_pos rfl, if_pos hb, if_pos rfl, Option.getD_some, grown_get]
  · rw [if_neg h, if_neg (fun e => h e.symm), Int.add_zero, ← List.getD_eq_getElem?_getD, grown_get]
theorem ext_getD {l m : List Int} (h1 : l.length = m.length) (h2 : ∀ i, l.getD i 0 = m.getD i 0) : l = m := by
  refine List.ext_getElem h1 fun i hi hj => ?_
  have := h2 i
  rw [List.getD_eq_getElem?_getD, List.getD_eq_getElem?_getD, List.getElem?_eq_getElem hi, List.getElem?_eq_getElem hj] at this
  exact this
theorem addC_comm (a b : Nat) (c : List Int) : addC a (addC b c) = addC b (addC a c) := by
  refine ext_getD (by rw [addC_len, addC_len, addC_len, addC_len]; exact om_199) fun i => ?_
  rw [addC_get, addC_get, addC_get, addC_get]; exact om_200
noncomputable def cntF : List Nat → List Int → List Int
  | [], c => c
  | b :: r, c => cntF r (addC b c)
theorem cntF_perm {l m : List Nat} (h : l.Perm m) : ∀ c, cntF l c = cntF m c := by
  induction h with
  | nil => exact fun _ => rfl
  | cons a _ ih => exact fun c => ih _
  | swap a b r => exact fun c => by show cntF r (addC a (addC b c)) = cntF r (addC b (addC a c)); rw [addC_comm]
  | trans _ _ ih1 ih2 => exact fun c => (ih1 c).trans (ih2 c)
noncomputable def sumS (bs : List Nat) : Nat := (bs.map (· + 1)).sum
theorem sumS_cons (b : Nat) (bs : List Nat) : sumS (b :: bs) = b + 1 + sumS bs := by unfold sumS; rw [List.map_cons, List.sum_cons]
theorem wsGo_runs (rest : List Nat) : ∀ (bs : List Nat) (n nt : Int) (cnt : List Int), wsGo (bs.flatMap runL ++ rest) n nt 0 cnt = wsGo rest (n + sumS bs) (nt + bs.length) 0 (cntF bs cnt)
  | [], n, nt, cnt => by show wsGo rest n nt 0 cnt = _; rw [show n + ((sumS [] : Nat) : Int) = n from Int.add_zero n, show nt + (([] : List Nat).length : Int) = nt from Int.add_zero nt]; rfl
  | b :: bs, n, nt, cnt => by
    rw [List.flatMap_cons, List.append_assoc, wsGo_run, wsGo_runs rest bs, sumS_cons, List.length_cons]
    show wsGo rest _ _ 0 (cntF bs (addC b cnt)) = wsGo rest _ _ 0 (cntF bs (addC b cnt))
    congr 1 <;> (first | exact om_201 | exact om_51)
theorem len_runs : ∀ bs : List Nat, (bs.flatMap runL).length = sumS bs
  | [] => rfl
  | b :: bs => by
    rw [List.flatMap_cons, List.length_append, len_runs bs, sumS_cons]
    unfold runL
    rw [List.length_append, List.length_replicate]; rfl
theorem runL_of (p : Int) : (Txt.mul " " p ++ "\t").cps.toList = runL p.toNat := by
  rw [app_list, mul_list]
  have e1 : ((" " : Str)).cps.toList = [32] := by decide +kernel
  have e2 : (("\t" : Str)).cps.toList = [9] := by decide +kernel
  rw [e1, e2]
  unfold runL
  congr 1
  have : ∀ m : Nat, (List.replicate m [32]).flatten = List.replicate m 32 := by
    intro m
    induction m with
    | zero => rfl
    | succ m ih => rw [List.replicate_succ, List.flatten_cons, ih, List.replicate_succ]; rfl
  exact this _
noncomputable def seqL (bits : Int) : List Int → Int → List Nat → List Nat
  | [], _, bs => bs
  | p :: r, k, bs => seqL bits r (k + 1) (if bitC bits k = true then bs ++ [p.toNat] else p.toNat :: bs)
theorem leadP_list (bits : Int) : ∀ (ps : List Int) (k : Int) (l : Str) (bs : List Nat), l.cps.toList = bs.flatMap runL → (leadP bits ps k l).cps.toList = (seqL bits ps k bs).flatMap runL
  | [], k, l, bs, h => h
  | p :: r, k, l, bs, h => by
    unfold leadP seqL
    refine leadP_list bits r (k + 1) _ _ ?_
    by_cases c : bitC bits k = true
    · rw [if_pos c, if_pos c, app_list, runL_of, h, List.flatMap_append]
      simp
    · rw [if_neg c, if_neg c, app_list, runL_of, h, List.flatMap_cons]
theorem seqL_perm (bits : Int) : ∀ (ps : List Int) (k : Int) (bs : List Nat), (seqL bits ps k bs).Perm (bs ++ ps.map Int.toNat)
  | [], k, bs => by rw [List.map_nil, List.append_nil]; exact .refl _
  | p :: r, k, bs => by
    unfold seqL
    rw [List.map_cons]
    by_cases c : bitC bits k = true
    · rw [if_pos c]
      refine (seqL_perm bits r (k + 1) _).trans ?_
      rw [List.append_assoc]; exact .refl _
    · rw [if_neg c]
      refine (seqL_perm bits r (k + 1) _).trans ?_
      exact (List.perm_middle).symm
theorem sumS_perm {l m : List Nat} (h : l.Perm m) : sumS l = sumS m := (h.map (· + 1)).sum_nat
structure LeadF (raw : Str) (p : List Nat) : Prop where
  bs : ∃ bs : List Nat, bs.Perm p ∧ raw.cps.toList = bs.flatMap runL
theorem lead_of (bits : Int) {ps : List Int} {p : List Nat} (h : (ps.map Int.toNat).Perm p) : LeadF (leadP bits ps 0 "") p := by
  refine ⟨seqL bits ps 0 [], ?_, leadP_list bits ps 0 "" [] (by decide +kernel)⟩
  exact (seqL_perm bits ps 0 []).trans h
theorem LeadF.ws {raw : Str} {p : List Nat} (h : LeadF raw p) : wsT raw = ((sumS p : Int), (p.length : Int), 0, cntF p []) := by
  obtain ⟨bs, hp, e⟩ := h.bs
  unfold wsT
  rw [e]
  have := wsGo_runs [] bs 0 0 []
  rw [List.append_nil] at this
  rw [this, sumS_perm hp, hp.length_eq, cntF_perm hp, Int.zero_add, Int.zero_add]
  rfl
theorem LeadF.len {raw : Str} {p : List Nat} (h : LeadF raw p) : raw.cps.toList.length = sumS p := by
  obtain ⟨bs, hp, e⟩ := h.bs
  rw [e, len_runs, sumS_perm hp]
theorem before_list (lead : Str) (m : Nat) : (beforeOf lead m).cps.toList = lead.cps.toList ++ (List.replicate (m + 1) 32 ++ [120, 9]) := by
  unfold beforeOf
  rw [app_list, app_list, mul_list, List.append_assoc]
  have e1 : ((" " : Str)).cps.toList = [32] := by decide +kernel
  have e2 : (("x\t" : Str)).cps.toList = [120, 9] := by decide +kernel
  have : ∀ m : Nat, (List.replicate m [32]).flatten = List.replicate m 32 := by
    intro m
    induction m with
    | zero => rfl
    | succ m ih => rw [List.replicate_succ, List.flatten_cons, ih, List.replicate_succ]; rfl
  rw [e1, e2, this, show ((m : Int) + 1).toNat = m + 1 by exact om_202]
theorem before_ws {lead : Str} {p : List Nat} (h : LeadF lead p) (m : Nat) : wsB (beforeOf lead m) = (m : Int) + 1 ∧ wsC (beforeOf lead m) = cntF p [] := by
  obtain ⟨bs, hp, e⟩ := h.bs
  have key : wsT (beforeOf lead m) = ((sumS p : Int) + ((m + 1 : Nat) : Int), (p.length : Int), 0 + ((m + 1 : Nat) : Int), cntF p []) := by
    unfold wsT
    rw [before_list, e, wsGo_runs, wsGo_blank, sumS_perm hp, hp.length_eq, cntF_perm hp, Int.zero_add, Int.zero_add]
    rfl
  unfold wsB wsC
  rw [key]
  exact ⟨by show 0 + ((m + 1 : Nat) : Int) = _; exact om_203, rfl⟩
theorem chars_lead {raw : Str} {p : List Nat} (h : LeadF raw p) : ∀ c ∈ raw.cps.toList, c = 9 ∨ c = 32 ∨ c = 120 := by
  obtain ⟨bs, hp, e⟩ := h.bs
  rw [e]
  intro c hc
  obtain ⟨b, _, hb⟩ := List.mem_flatMap.mp hc
  unfold runL at hb
  rcases List.mem_append.mp hb with z | z
  · exact .inr (.inl (List.eq_of_mem_replicate z))
  · exact .inl (List.mem_singleton.mp z)
theorem chars_before {lead : Str} {p : List Nat} (h : LeadF lead p) (m : Nat) : ∀ c ∈ (beforeOf lead m).cps.toList, c = 9 ∨ c = 32 ∨ c = 120 := by
  rw [before_list]
  intro c hc
  rcases List.mem_append.mp hc with z | z
  · exact chars_lead h c z
  · rcases List.mem_append.mp z with z | z
    · exact .inr (.inl (List.eq_of_mem_replicate z))
    · rcases List.mem_cons.mp z with z | z
      · exact .inr (.inr z)
      · exact .inl (List.mem_singleton.mp z)
end Lw
end
section
namespace Lw
open PySem PySem.Calls PyProof.Rows PySem.W
noncomputable def lowC (c : Nat) : Nat := if 65 ≤ c ∧ c ≤ 90 then c + 32 else c
noncomputable def upC (c : Nat) : Nat := if 97 ≤ c ∧ c ≤ 122 then c - 32 else c
theorem lowC_all : ((List.range 128).all fun c => Unicode.lowerOf c == [lowC c] && Unicode.upperOf c == [upC c]) = true := by decide +kernel
theorem low_of {c : Nat} (h : c < 128) : Unicode.lowerOf c = [lowC c] ∧ Unicode.upperOf c = [upC c] := by
  have := List.all_eq_true.mp lowC_all c (List.mem_range.mpr h)
  rw [Bool.and_eq_true] at this
  exact ⟨eq_of_beq this.1, eq_of_beq this.2⟩
theorem Str.ext' {a b : Str} (h : a.cps.toList = b.cps.toList) : a = b := by
  cases a; cases b
  congr
  exact Array.toList_inj.mp h
theorem flat_map1 (g : Nat → Nat → List Nat) (f : Nat → Nat) (a : Array Nat) (h : ∀ i c, a[i]? = some c → g i c = [f c]) : ((a.mapIdx fun i c => (g i c).toArray).flatten).toList = a.toList.map f := by
  rw [Array.toList_flatten, ]
  have : (a.mapIdx fun i c => (g i c).toArray).toList = a.toList.map fun c => #[f c] := by
    refine List.ext_getElem (by simp) fun i h1 h2 => ?_
    simp only [List.length_map, Array.length_toList] at h2
    rw [Array.getElem_toList, Array.getElem_mapIdx, List.getElem_map, Array.getElem_toList, h i a[i] (Array.getElem?_eq_getElem h2)]
  rw [this, List.map_map]
  induction a.toList with
  | nil => rfl
  | cons x l ih => simp [ih]
theorem lowered_list {x : Str} (h : ∀ c ∈ x.cps.toList, c < 128) : (lowered x).cps.toList = x.cps.toList.map lowC := by
  refine flat_map1 _ lowC x.cps fun i c hc => ?_
  have hm : c ∈ x.cps.toList := by rw [← Array.getElem?_toList] at hc; exact List.mem_of_getElem? hc
  have hlt := h c hm
  unfold Unicode.lowerAt
  rw [hc]
  show (if (c == 0x3A3 && _) = true then _ else _) = _
  rw [if_neg (by rw [Bool.and_eq_true]; exact fun z => by have := eq_of_beq z.1; exact om_204 hlt this), (low_of hlt).1]
theorem uppered_list {x : Str} (h : ∀ c ∈ x.cps.toList, c < 128) : (uppered x).cps.toList = x.cps.toList.map upC := by
  refine flat_map1 _ upC x.cps fun i c hc => ?_
  have hm : c ∈ x.cps.toList := by rw [← Array.getElem?_toList] at hc; exact List.mem_of_getElem? hc
  exact (low_of (h c hm)).2
noncomputable def toI (p : List Nat) : List Int := p.map fun (k : Nat) => (k : Int)
theorem join_empty : ∀ (ts : List Str), (Txt.join "" ts).cps.toList = ts.flatMap fun t => t.cps.toList
  | [] => by decide +kernel
  | t :: ts => by
    have e0 : (("" : Str)).cps = #[] := by decide +kernel
    have key : ∀ (l : List Str) (acc : Array Nat), (l.foldl (fun acc p => acc ++ ("" : Str).cps ++ p.cps) acc).toList = acc.toList ++ l.flatMap fun t => t.cps.toList := by
      intro l
      induction l with
      | nil => intro acc; simp
      | cons x l ih =>
        intro acc
        rw [List.foldl_cons, ih, e0, List.flatMap_cons, Array.toList_append, Array.toList_append]
        simp
    show ((ts.foldl (fun acc p => acc ++ ("" : Str).cps ++ p.cps) t.cps)).toList = _
    rw [key, List.flatMap_cons]
theorem letters_list (p : List Nat) : (letters (toI p)).cps.toList = p.map (96 + ·) := by
  unfold letters toI
  rw [join_empty]
  induction p with
  | nil => rfl
  | cons a p ih =>
    rw [List.map_cons, List.map_cons, List.flatMap_cons, List.map_cons, ih]
    show [((96 : Int) + (a : Int)).toNat] ++ _ = _
    rw [show ((96 : Int) + (a : Int)).toNat = 96 + a by exact om_205]; rfl
noncomputable abbrev Small (p : List Nat) : Prop := ∀ k ∈ p, 1 ≤ k ∧ k ≤ 15
theorem letters_small {p : List Nat} (h : Small p) : ∀ c ∈ (letters (toI p)).cps.toList, c < 128 := by
  rw [letters_list]
  intro c hc
  obtain ⟨k, hk, rfl⟩ := List.mem_map.mp hc
  have := h k hk
  show 96 + k < 128
  exact om_206 this
theorem upper_letters {p : List Nat} (h : Small p) : (uppered (letters (toI p))).cps.toList = p.map (64 + ·) := by
  rw [uppered_list (letters_small h), letters_list, List.map_map]
  refine List.map_congr_left fun k hk => ?_
  have := h k hk
  show upC (96 + k) = 64 + k
  unfold upC
  rw [if_pos (by exact om_207 this)]; exact om_208 this
theorem name_list (m : Nat) {p : List Nat} (h : Small p) : (nameOf m (toI p)).cps.toList = p.map ((if oddI m = true then 64 else 96) + ·) := by
  unfold nameOf
  by_cases c : oddI m = true
  · rw [if_pos c, if_pos c, upper_letters h]
  · rw [if_neg c, if_neg c, letters_list]
theorem name_small (m : Nat) {p : List Nat} (h : Small p) : ∀ c ∈ (nameOf m (toI p)).cps.toList, 64 < c ∧ c < 127 := by
  rw [name_list m h]
  intro c hc
  obtain ⟨k, hk, rfl⟩ := List.mem_map.mp hc
  have := h k hk
  show 64 < (if oddI m = true then 64 else 96) + k ∧ (if oddI m = true then 64 else 96) + k < 127
  split <;> (first | exact om_209 this | exact om_210 this)
theorem low_name (m : Nat) {p : List Nat} (h : Small p) : lowered (nameOf m (toI p)) = letters (toI p) := by
  refine Str.ext' ?_
  rw [lowered_list fun c hc => by have := name_small m h c hc; exact om_211 this, name_list m h, letters_list, List.map_map]
  refine List.map_congr_left fun k hk => ?_
  have := h k hk
  show lowC ((if oddI m = true then 64 else 96) + k) = 96 + k
  unfold lowC
  split
  · rw [if_pos (by exact om_212 this)]; exact om_213
  · rw [if_neg (by exact om_214 this)]
theorem up_name_list (m : Nat) {p : List Nat} (h : Small p) : (uppered (nameOf m (toI p))).cps.toList = p.map (64 + ·) := by
  rw [uppered_list fun c hc => by have := name_small m h c hc; exact om_211 this, name_list m h, List.map_map]
  refine List.map_congr_left fun k hk => ?_
  have := h k hk
  show upC ((if oddI m = true then 64 else 96) + k) = 64 + k
  unfold upC
  split
  · rw [if_neg (by exact om_215 this)]
  · rw [if_pos (by exact om_207 this)]; exact om_208 this
theorem low_up_name (m : Nat) {p : List Nat} (h : Small p) : lowered (uppered (nameOf m (toI p))) = letters (toI p) := by
  have hu : ∀ c ∈ (uppered (nameOf m (toI p))).cps.toList, c < 128 := by
    rw [up_name_list m h]
    intro c hc
    obtain ⟨k, hk, rfl⟩ := List.mem_map.mp hc
    have := h k hk
    show 64 + k < 128
    exact om_216 this
  refine Str.ext' ?_
  rw [lowered_list hu, up_name_list m h, letters_list, List.map_map]
  refine List.map_congr_left fun k hk => ?_
  have := h k hk
  show lowC (64 + k) = 96 + k
  unfold lowC
  rw [if_pos (by exact om_212 this)]; exact om_213
theorem letters_inj {p q : List Nat} (h : letters (toI p) = letters (toI q)) : p = q := by
  have := congrArg (fun s : Str => s.cps.toList) h
  simp only [letters_list] at this
  exact List.map_inj_right (fun a b (e : 96 + a = 96 + b) => Nat.add_left_cancel e) |>.mp this
theorem len_of {x : Str} {l : List Nat} (h : x.cps.toList = l) : x.length = l.length := by
  rw [← h, Array.length_toList]; rfl
theorem noHit_small {x : Str} (hz : x.cps.toList.length ≤ 1000000) (h : ∀ c ∈ x.cps.toList, 64 < c ∧ c < 127) : noHit codeN x = true :=
  noHit_of (by rw [Array.length_toList] at hz; exact hz) (by decide +kernel) fun c hc => notIn_N (by have := h c hc; exact om_217 this) (by have := h c hc; exact om_218 this)
theorem letters_ok {p : List Nat} (hp : Small p) (hl : p.length ≤ 1000) : (letters (toI p)).length ≤ sizeLine ∧ noHit codeN (letters (toI p)) = true := by
  have e := letters_list p
  refine ⟨by rw [len_of e, List.length_map]; unfold sizeLine; exact om_64 hl, noHit_small (by rw [e, List.length_map]; exact om_65 hl) ?_⟩
  rw [e]
  intro c hc
  obtain ⟨k, hk, rfl⟩ := List.mem_map.mp hc
  have := hp k hk
  show 64 < 96 + k ∧ 96 + k < 127
  exact om_210 this
theorem name_ok (m : Nat) {p : List Nat} (hp : Small p) (hl : p.length ≤ 1000) : okName (nameOf m (toI p)) = true ∧ noHit codeN (nameOf m (toI p)) = true ∧ PyData.strOk (nameOf m (toI p)) = true ∧ (uppered (nameOf m (toI p))).length ≤ sizeLine ∧ okName (uppered (nameOf m (toI p))) = true ∧ (nameOf m (toI p)).length ≤ 1000 := by
  obtain ⟨h1, h2⟩ := letters_ok hp hl
  have e := name_list m hp
  have l1 : (nameOf m (toI p)).length ≤ 1000 := by rw [len_of e, List.length_map]; exact hl
  refine ⟨?_, noHit_small (by rw [e, List.length_map]; exact om_65 hl) (name_small m hp), ?_, by rw [len_of (up_name_list m hp), List.length_map]; unfold sizeLine; exact om_64 hl, ?_, l1⟩
  · unfold okName
    rw [low_name m hp, Bool.and_eq_true]
    exact ⟨decide_eq_true h1, h2⟩
  · unfold PyData.strOk
    rw [Array.all_eq_true_iff_forall_mem]
    intro c hc
    have := name_small m hp c (Array.mem_toList_iff.mpr hc)
    exact decide_eq_true (by exact om_219 this)
  · unfold okName
    rw [low_up_name m hp, Bool.and_eq_true]
    exact ⟨decide_eq_true h1, h2⟩
end Lw
end
section
namespace Lw
open PySem PySem.Calls PyProof.Rows PySem.W
noncomputable def fVal (hv : Int) : UInt64 := Float64.div (Float64.ofInt hv) 4625196817309499392
noncomputable def shQ (q : Int) : UInt64 := Float64.div (Float64.ofInt (q + 1)) 4616189618054758400
noncomputable def lc (k q num hv : Int) : Bool :=
  match hsvSpec (idiv num (8 * (k + 1))) (shQ q) (fVal hv) with
  | none => false
  | some t => match rgbSpec t.1 t.2.1 t.2.2 with
    | none => false
    | some y => y.2.1 == shQ q && y.2.2 == fVal hv && (ftrunc (Float64.mul y.2.2 (Float64.ofInt 16)) == some hv) && !Float64.isInf (idiv num (8 * (k + 1))) && !Float64.isInf (Float64.ofInt hv) &&
      (match ftrunc (Float64.add (Float64.mul y.1 (Float64.ofInt (8 * (k + 1)))) 4602678819172646912) with | some sp => sp.fmod (8 * (k + 1)) == num.fmod (8 * (k + 1)) | none => false)
noncomputable def lcs (k q lean : Nat) : Bool := (List.range (k + 1)).all fun p => (List.range 2).all fun e => lc k q ((8 * p + lean : Nat) : Int) ((k : Int) - p + e + 1) && (p != 0 || lc k q ((8 * (k + 1) + lean : Nat) : Int) ((k : Int) - p + e + 1))
noncomputable def lcAll (k q : Nat) : Bool := (List.range 8).all fun lean => lcs k q lean
end Lw
end
section
namespace Lw
open PySem PySem.Calls PyProof.Rows PySem.W
theorem lc_1_0 : lcAll 1 0 = true := by decide +kernel
theorem lc_1_1 : lcAll 1 1 = true := by decide +kernel
theorem lc_1_2 : lcAll 1 2 = true := by decide +kernel
theorem lc_1_3 : lcAll 1 3 = true := by decide +kernel
theorem lc_2_0 : lcAll 2 0 = true := by decide +kernel
theorem lc_2_1 : lcAll 2 1 = true := by decide +kernel
theorem lc_2_2 : lcAll 2 2 = true := by decide +kernel
theorem lc_2_3 : lcAll 2 3 = true := by decide +kernel
theorem lc_3_0 : lcAll 3 0 = true := by decide +kernel
theorem lc_3_1 : lcAll 3 1 = true := by decide +kernel
theorem lc_3_2 : lcAll 3 2 = true := by decide +kernel
theorem lc_3_3 : lcAll 3 3 = true := by decide +kernel
theorem lc_4_0 : lcAll 4 0 = true := by decide +kernel
theorem lc_4_1 : lcAll 4 1 = true := by decide +kernel
theorem lc_4_2 : lcAll 4 2 = true := by decide +kernel
theorem lc_4_3 : lcAll 4 3 = true := by decide +kernel
theorem lc_5_0 : lcAll 5 0 = true := by decide +kernel
theorem lc_5_1 : lcAll 5 1 = true := by decide +kernel
theorem lc_5_2 : lcAll 5 2 = true := by decide +kernel
theorem lc_5_3 : lcAll 5 3 = true := by decide +kernel
theorem lc_all {k q : Nat} (h1 : 1 ≤ k) (h2 : k ≤ 5) (h3 : q < 4) : lcAll k q = true := by
  have hk : k = 1 ∨ k = 2 ∨ k = 3 ∨ k = 4 ∨ k = 5 := by exact om_313 h1 h2
  have hq : q = 0 ∨ q = 1 ∨ q = 2 ∨ q = 3 := by exact om_314 h3
  rcases hk with rfl | rfl | rfl | rfl | rfl <;> rcases hq with rfl | rfl | rfl | rfl
  · exact lc_1_0
  · exact lc_1_1
  · exact lc_1_2
  · exact lc_1_3
  · exact lc_2_0
  · exact lc_2_1
  · exact lc_2_2
  · exact lc_2_3
  · exact lc_3_0
  · exact lc_3_1
  · exact lc_3_2
  · exact lc_3_3
  · exact lc_4_0
  · exact lc_4_1
  · exact lc_4_2
  · exact lc_4_3
  · exact lc_5_0
  · exact lc_5_1
  · exact lc_5_2
  · exact lc_5_3
noncomputable def vc (hv s : Int) : Bool := Float64.add (fVal hv) (fVal s) == fVal (hv + s) && !Float64.isInf (Float64.ofInt s)
noncomputable def vcAll : Bool := (List.range 5).all fun k' => (List.range 8).all fun h => vc ((h : Int) + 1) (-1) && vc ((h : Int) + 1) ((k' : Int) + 1)
theorem vc_all : vcAll = true := by decide +kernel
theorem sh_same : ((List.range 4).all fun (q : Nat) => Float64.cmp (shQ q) (shQ q) == some .eq) = true := by decide +kernel
end Lw
end
section
namespace Lw
open PySem PySem.Calls PyProof.Rows PySem.W
noncomputable def insN (a : Nat) : List Nat → List Nat
  | [] => [a]
  | b :: r => if a ≤ b then a :: b :: r else b :: insN a r
noncomputable def stepP (p : List Nat) : List Nat := insN p.length ((p.filter fun k => decide (1 < k)).map fun k => k - 1)
noncomputable def sortN : List Nat → List Nat
  | [] => []
  | a :: l => insN a (sortN l)
noncomputable def pg : Nat → Nat → Nat → List (List Nat)
  | 0, n, _ => if n = 0 then [[]] else []
  | f + 1, n, m => if n = 0 then [[]] else (List.range' m (n + 1 - m)).flatMap fun a => (pg f (n - a) a).map (a :: ·)
noncomputable def pilesI (cs : List Int) : List Int := (List.range cs.length).flatMap fun i => List.replicate (cs.getD i 0).toNat (i : Int)
noncomputable def oAt (o : List (List Nat)) (m : Nat) : List Nat := o.getD m []
noncomputable def good (n k : Nat) (p : List Nat) : Bool :=
  p.sum == n && p.all (fun a => decide (1 ≤ a) && decide (a ≤ 15)) && decide (1 ≤ p.length) && decide (p.length ≤ 15) &&
  pilesI (cntF p []) == toI p && decide ((cntF p []).length ≤ 100) && (cntF p []).all (fun c => decide (0 ≤ c) && decide (c ≤ 1000)) &&
  decide ((revI (toI p)).length ≤ 1000) && decide (0 < (tallI (toI p) (k : Int)).length) && decide ((tallI (toI p) (k : Int)).length ≤ 1000)
noncomputable def exOf (k : Nat) (p : List Nat) : List Int := moreI (toI p) (k : Int)
noncomputable def hsN (k : Nat) (ex : List Int) (j : Nat) : List Nat := (List.range (k + 1)).map fun i => k - (i + j) % (k + 1) + (ex.getD i 0).toNat
noncomputable def kN (n : Nat) : Nat := (kOf (n : Int)).toNat
noncomputable abbrev Ent := List Nat × Nat × Nat × List Nat × Nat
noncomputable def entA (T : List Ent) (i : Nat) : Ent := T.getD i ([], 0, 0, [], 0)
noncomputable def inB (k : Nat) (p : List Nat) : Bool := decide (minI (exOf k p) ≥ 0) && decide (maxI (exOf k p) ≤ 1)
noncomputable def itN (T : List Ent) : Nat → Nat → Nat
  | 0, i => i
  | j + 1, i => itN T j (entA T i).2.1
noncomputable def cycOk (k : Nat) (T : List Ent) (p : List Nat) (nx v : Nat) (ex : List Int) : Bool :=
  minI ((rangeI 1 (k + 1)).filter fun d => rotI d ex == ex) == (v : Int) && decide (0 < ((rangeI 1 (k + 1)).filter fun d => rotI d ex == ex).length) &&
  (!(maxI ex == 0) || v == 1) && (rangeI 1 (k + 1)).all (fun d => decide ((pickI ex (some (-d)) none none).length ≤ 1000) && decide ((pickI ex none (some (-d)) none).length ≤ 1000)) &&
  ex.length == k + 1 && ex.all (fun e => e == 0 || e == 1) &&
  sortN ((hsN k ex 0).filter fun h => decide (0 < h)) == p && (List.range v).all (fun j => sortN ((hsN k ex (j + 1)).filter fun h => decide (0 < h)) == (entA T (itN T j nx)).1)
noncomputable def nodeOk (n k len : Nat) (T : List Ent) (e : Ent) : Bool :=
  good n k e.1 && decide (e.2.1 < len) && stepP e.1 == (entA T e.2.1).1 && inB k e.1 == (e.2.2.1 != 0) && (e.2.2.1 == 0 || cycOk k T e.1 e.2.1 e.2.2.1 (exOf k e.1))
noncomputable def wayOk (T : List Ent) (len : Nat) : List Nat → Bool
  | [] => true
  | [_] => true
  | a :: b :: r => decide (a < len) && (entA T a).2.1 == b && wayOk T len (b :: r)
noncomputable def flagOk (T : List Ent) (f : Nat) : Nat → List Nat → Bool
  | _, [] => true
  | _, [_] => true
  | m, a :: b :: r => ((entA T a).2.2.1 != 0) == decide (f ≤ m) && flagOk T f (m + 1) (b :: r)
noncomputable def apartN : List Nat → Bool
  | [] => true
  | [_] => true
  | a :: b :: r => !((b :: r).dropLast.contains a) && apartN (b :: r)
noncomputable def orbOk (k len i : Nat) (T : List Ent) (w : List Nat) (f : Nat) : Bool :=
  decide (f + 1 < w.length) && decide (w.length ≤ 100) && w.getD 0 0 == i && wayOk T len w && flagOk T f 0 w && apartN w && w.getD (w.length - 1) 0 == w.getD f 0 &&
  (entA T (w.getD f 0)).2.2.1 == w.length - 1 - f && ((entA T (w.getD f 0)).2.2.1 != 1 || decide (f ≤ k * k - k))
noncomputable def nodesOk (n k len : Nat) (T : List Ent) : Nat → List Ent → Bool
  | _, [] => true
  | i, e :: r => nodeOk n k len T e && orbOk k len i T e.2.2.2.1 e.2.2.2.2 && nodesOk n k len T (i + 1) r
noncomputable def tabOk (n k : Nat) (T : List Ent) : Bool := (T.map fun e => e.1) == pg n n 1 && nodesOk n k T.length T 0 T
end Lw
end
section
namespace Lw
open PySem PySem.Calls PyProof.Rows PySem.W
theorem insN_perm (a : Nat) : ∀ l : List Nat, (insN a l).Perm (a :: l)
  | [] => .refl _
  | b :: r => by
    unfold insN
    split
    · exact .refl _
    · exact ((insN_perm a r).cons b).trans (.swap a b r)
theorem sortN_perm : ∀ l : List Nat, (sortN l).Perm l
  | [] => .refl _
  | a :: l => (insN_perm a _).trans ((sortN_perm l).cons a)
theorem insN_asc (a : Nat) : ∀ l : List Nat, l.Pairwise (· ≤ ·) → (insN a l).Pairwise (· ≤ ·)
  | [], _ => List.pairwise_singleton _ _
  | b :: r, h => by
    rw [List.pairwise_cons] at h
    unfold insN
    split
    · rename_i c
      rw [List.pairwise_cons]
      refine ⟨fun x hx => ?_, List.pairwise_cons.mpr h⟩
      rcases List.mem_cons.mp hx with rfl | hx
      · exact c
      · exact Nat.le_trans c (h.1 x hx)
    · rename_i c
      rw [List.pairwise_cons]
      refine ⟨fun x hx => ?_, insN_asc a r h.2⟩
      rcases List.mem_cons.mp ((insN_perm a r).subset hx) with rfl | hx
      · exact om_220 c
      · exact h.1 x hx
theorem sortN_asc : ∀ l : List Nat, (sortN l).Pairwise (· ≤ ·)
  | [] => .nil
  | a :: l => insN_asc a _ (sortN_asc l)
theorem mem_pg : ∀ (f : Nat) (l : List Nat) (n m : Nat), l.Pairwise (· ≤ ·) → (∀ a ∈ l, m ≤ a) → 1 ≤ m → l.sum = n → l.length ≤ f → l ∈ pg f n m
  | 0, [], n, m, _, _, _, hs, _ => by subst hs; exact List.mem_singleton.mpr rfl
  | 0, a :: r, n, m, _, _, _, _, hl => by simp at hl
  | f + 1, [], n, m, _, _, _, hs, _ => by subst hs; exact List.mem_singleton.mpr rfl
  | f + 1, a :: r, n, m, hp, hm, h1, hs, hl => by
    rw [List.pairwise_cons] at hp
    rw [List.sum_cons] at hs
    rw [List.length_cons] at hl
    have ha := hm a (.head _)
    unfold pg
    rw [if_neg (by exact om_221 h1 hs ha)]
    refine List.mem_flatMap.mpr ⟨a, List.mem_range'_1.mpr ⟨ha, by exact om_222 hs ha⟩, List.mem_map.mpr ⟨r, ?_, rfl⟩⟩
    exact mem_pg f r (n - a) a hp.2 hp.1 (by exact om_223 h1 hs ha) (by exact om_224 hs) (by exact om_225 hl)
theorem cut_sum (bits : Int) : ∀ (m : Nat) (c : Int) (l : List Int) (x : Int), (cutL bits m c l x).sum = l.sum + x + m
  | 0, c, l, x => by show (l ++ [x]).sum = _; rw [List.sum_append]; simp
  | m + 1, c, l, x => by
    unfold cutL
    split
    · rw [cut_sum bits m, List.sum_append, List.sum_singleton]; exact om_226
    · rw [cut_sum bits m]; exact om_227
theorem cut_pos (bits : Int) : ∀ (m : Nat) (c : Int) (l : List Int) (x : Int), (∀ a ∈ l, 1 ≤ a) → 1 ≤ x → ∀ a ∈ cutL bits m c l x, 1 ≤ a
  | 0, c, l, x, h, hx, a, ha => by
    rcases List.mem_append.mp ha with z | z
    · exact h a z
    · obtain rfl := List.mem_singleton.mp z; exact hx
  | m + 1, c, l, x, h, hx, a, ha => by
    unfold cutL at ha
    split at ha
    · refine cut_pos bits m _ _ _ (fun b hb => ?_) (by decide) a ha
      rcases List.mem_append.mp hb with z | z
      · exact h b z
      · obtain rfl := List.mem_singleton.mp z; exact hx
    · exact cut_pos bits m _ _ _ h (by exact om_29 hx) a ha
theorem sum_toNat : ∀ l : List Int, (∀ a ∈ l, 1 ≤ a) → (((l.map Int.toNat).sum : Nat) : Int) = l.sum
  | [], _ => rfl
  | a :: l, h => by
    have ha := h a (.head _)
    rw [List.map_cons, List.sum_cons, List.sum_cons, Int.natCast_add, sum_toNat l fun b hb => h b (.tail _ hb)]; exact om_228 ha
theorem len_le_sum : ∀ l : List Nat, (∀ a ∈ l, 1 ≤ a) → l.length ≤ l.sum
  | [], _ => Nat.le_refl _
  | a :: l, h => by
    have ha := h a (.head _)
    have := len_le_sum l fun b hb => h b (.tail _ hb)
    rw [List.length_cons, List.sum_cons]; exact om_229 ha this
theorem first_mem (cutb : Int) {cards : Nat} (h1 : 1 ≤ cards) : sortN ((cutL cutb ((cards : Int) - 1).toNat 1 [] 1).map Int.toNat) ∈ pg cards cards 1 := by
  have hpos := cut_pos cutb ((cards : Int) - 1).toNat 1 [] 1 (fun a ha => nomatch ha) (by decide)
  have hsum := cut_sum cutb ((cards : Int) - 1).toNat 1 [] 1
  have hs2 := sum_toNat _ hpos
  have hperm := sortN_perm ((cutL cutb ((cards : Int) - 1).toNat 1 [] 1).map Int.toNat)
  have hs3 : (sortN ((cutL cutb ((cards : Int) - 1).toNat 1 [] 1).map Int.toNat)).sum = cards := by
    rw [hperm.sum_nat]
    have e0 : ([] : List Int).sum = 0 := rfl
    rw [hsum, e0] at hs2
    exact om_230 h1 hs2
  have hp1 : ∀ a ∈ sortN ((cutL cutb ((cards : Int) - 1).toNat 1 [] 1).map Int.toNat), 1 ≤ a := fun a ha => by
    obtain ⟨b, hb, rfl⟩ := List.mem_map.mp (hperm.subset ha)
    have := hpos b hb
    exact om_231 this
  refine mem_pg _ _ _ _ (sortN_asc _) hp1 (Nat.le_refl _) hs3 ?_
  have := len_le_sum _ hp1
  exact om_232 hs3 this
theorem pEs_eq (cs : List Int) (i : Nat) : (pEs cs (.int (i : Int))).filterMap (pF (.int (i : Int))) = (List.replicate (cs.getD i 0).toNat (i : Int)).map D.int := by
  show (rangeFrom 0 1 (cs.getD ((i : Int)).toNat 0).toNat).filterMap (pF (.int (i : Int))) = _
  rw [Int.toNat_natCast]
  have : ∀ (n : Nat) (a : Int), (rangeFrom a 1 n).filterMap (pF (.int (i : Int))) = (List.replicate n (i : Int)).map D.int := by
    intro n
    induction n with
    | zero => intro a; rfl
    | succ n ih =>
      intro a
      show (D.int a :: rangeFrom (a + 1) 1 n).filterMap _ = _
      rw [List.filterMap_cons, List.replicate_succ, List.map_cons]
      show D.int (i : Int) :: _ = _
      rw [ih]
  exact this _ _
theorem pilesD_eq (cs : List Int) : pilesD cs = (pilesI cs).map D.int := by
  unfold pilesD pilesI
  rw [List.map_flatMap]
  have : ∀ (n a : Nat), (rangeFrom (a : Int) 1 n).flatMap (fun d => (pEs cs d).filterMap (pF d)) = (List.range' a n).flatMap fun i => (List.replicate (cs.getD i 0).toNat (i : Int)).map D.int := by
    intro n
    induction n with
    | zero => intro a; rfl
    | succ n ih =>
      intro a
      rw [List.range'_succ, List.flatMap_cons]
      show (D.int (a : Int) :: rangeFrom ((a : Int) + 1) 1 n).flatMap _ = _
      rw [List.flatMap_cons, pEs_eq]
      have := ih (a + 1)
      rw [show ((a + 1 : Nat) : Int) = (a : Int) + 1 from rfl] at this
      rw [this]
  have h := this cs.length 0
  rw [List.range_eq_range']
  exact h
theorem filter_range' (c : Nat → Bool) (f : Nat) : ∀ (n a : Nat), (∀ m, a ≤ m → m < a + n → c m = decide (m = f)) → (List.range' a n).filter c = if a ≤ f ∧ f < a + n then [f] else []
  | 0, a, _ => by rw [if_neg (by exact om_233)]; rfl
  | n + 1, a, h => by
    rw [List.range'_succ, List.filter_cons, filter_range' c f n (a + 1) fun m h1 h2 => h m (by exact om_234 h1) (by exact om_235 h2), h a (Nat.le_refl _) (by exact om_236)]
    by_cases e : a = f
    · subst e
      rw [if_pos (by simp), if_neg (by exact om_237), if_pos (by exact om_238)]
    · rw [if_neg (by simp [e])]
      by_cases g : a + 1 ≤ f ∧ f < a + 1 + n
      · rw [if_pos g, if_pos (by exact om_239 g)]
      · rw [if_neg g, if_neg (by exact om_240 e g)]
theorem filter_single {t f : Nat} {c : Nat → Bool} (hf : f < t) (h : ∀ m, m < t → c m = decide (m = f)) : (List.range t).filter c = [f] := by
  rw [List.range_eq_range', filter_range' c f t 0 fun m _ h2 => h m (by exact om_241 h2), if_pos (by exact om_242 hf)]
theorem getGo_none {nm : Str} : ∀ {l : List (Str × Str)}, (∀ p ∈ l, lowered p.1 ≠ lowered nm) → getGo nm l = .none
  | [], _ => rfl
  | p :: r, h => by
    unfold getGo
    rw [if_neg (by rw [beq_iff_eq]; exact h p (.head _))]
    exact getGo_none fun q hq => h q (.tail _ hq)
theorem getGo_app {nm : Str} {p : Str × Str} {r : List (Str × Str)} (hp : lowered p.1 = lowered nm) : ∀ {l : List (Str × Str)}, (∀ q ∈ l, lowered q.1 ≠ lowered nm) → getGo nm (l ++ p :: r) = .str p.2
  | [], _ => by
    show getGo nm (p :: r) = _
    unfold getGo
    rw [if_pos (by rw [beq_iff_eq]; exact hp)]
  | q :: l, h => by
    show getGo nm (q :: (l ++ p :: r)) = _
    unfold getGo
    rw [if_neg (by rw [beq_iff_eq]; exact h q (.head _))]
    exact getGo_app hp fun x hx => h x (.tail _ hx)
theorem sumS_eq (p : List Nat) : sumS p = p.sum + p.length := by
  unfold sumS
  induction p with
  | nil => rfl
  | cons a p ih => rw [List.map_cons, List.sum_cons, ih, List.sum_cons, List.length_cons]; exact om_243
theorem next_nat (q : List Nat) : (nextP (toI q) (q.length : Int)).map Int.toNat = ((q.filter fun k => decide (1 < k)).map fun k => k - 1) ++ [q.length] := by
  unfold nextP decL toI
  rw [List.map_append, List.map_map]
  congr 1
  induction q with
  | nil => rfl
  | cons a q ih =>
    rw [List.map_cons, List.filter_cons, List.filter_cons]
    by_cases h : 1 < a
    · rw [if_pos (decide_eq_true (by exact om_244 h)), if_pos (decide_eq_true h), List.map_cons, List.map_cons]
      congr 1
      show ((a : Int) - 1).toNat = a - 1
      exact om_245 h
    · rw [if_neg (by rw [decide_eq_true_eq]; exact om_246 h), if_neg (by rw [decide_eq_true_eq]; exact h)]
      exact ih
end Lw
end
section
namespace Lw
open PySem PySem.Calls PyProof.Rows PySem.W
structure GoodF (n k : Nat) (p : List Nat) : Prop where
  sum : p.sum = n
  small : Small p
  l1 : 1 ≤ p.length
  l15 : p.length ≤ 15
  piles : pilesD (cntF p []) = (toI p).map D.int
  c1 : (cntF p []).length ≤ 1000
  c2 : ∀ c ∈ cntF p [], 0 ≤ c ∧ c ≤ 1000
  r1 : (revI (toI p)).length ≤ 1000
  z0 : 0 < (tallI (toI p) (k : Int)).length
  z1 : (tallI (toI p) (k : Int)).length ≤ 1000
theorem good_of {n k : Nat} {p : List Nat} (h : good n k p = true) : GoodF n k p := by
  unfold good at h
  simp only [Bool.and_eq_true, decide_eq_true_eq] at h
  obtain ⟨⟨⟨⟨⟨⟨⟨⟨⟨h1, h2⟩, h3⟩, h4⟩, h5⟩, h6⟩, h7⟩, h8⟩, h9⟩, h10⟩ := h
  refine ⟨eq_of_beq h1, fun a ha => ?_, h3, h4, by rw [pilesD_eq, eq_of_beq h5], by exact om_247 h6, fun c hc => ?_, h8, h9, h10⟩
  · have := List.all_eq_true.mp h2 a ha
    simpa using this
  · have := List.all_eq_true.mp h7 c hc
    simpa using this
structure OrbF (n k : Nat) (p : List Nat) (o : List (List Nat)) (t f : Nat) (ex : List Int) : Prop where
  ft : f < t
  t170 : t ≤ 170
  o0 : oAt o 0 = p
  chain : ∀ i, i < t → oAt o (i + 1) = stepP (oAt o i)
  apart : ∀ i j, i < t → j < i → oAt o j ≠ oAt o i
  back : oAt o t = oAt o f
  good : ∀ i, i ≤ t → GoodF n k (oAt o i)
  q4 : (List.range t).filter (fun m => decide (minI (exOf k (oAt o m)) ≥ 0) && decide (maxI (exOf k (oAt o m)) ≤ 1)) = List.range' f (t - f)
  q5 : minI ((rangeI 1 (k + 1)).filter fun d => rotI d ex == ex) = (t : Int) - f
  q5n : 0 < ((rangeI 1 (k + 1)).filter fun d => rotI d ex == ex).length
  q6 : ((maxI ex == 0) && decide ((f : Int) > (k : Int) * k - k)) = false
  q7 : ∀ d ∈ rangeI 1 (k + 1), (pickI ex (some (-d)) none none).length ≤ 1000 ∧ (pickI ex none (some (-d)) none).length ≤ 1000
  exl : ex.length = k + 1
  ex01 : ∀ e ∈ ex, e = 0 ∨ e = 1
  wheel : ∀ j, j ≤ t - f → sortN ((hsN k ex j).filter fun h => decide (0 < h)) = oAt o (f + j)
section
variable (bits : Int) (ps0 : List Int) (o : List (List Nat))
noncomputable def psA : Nat → List Int
  | 0 => ps0
  | m + 1 => nextP (toI (oAt o m)) ((oAt o m).length : Int)
noncomputable def ldA (m : Nat) : Str := leadP bits (psA ps0 o m) 0 ""
noncomputable def bfA : Nat → Str
  | 0 => ""
  | m + 1 => beforeOf (ldA bits ps0 o m) m
noncomputable def enA (m : Nat) : Str × Str := (nameOf m (toI (oAt o m)), bfA bits ps0 o m)
noncomputable def tbA (m : Nat) : List (Str × Str) := (List.range m).map (enA bits ps0 o)
noncomputable def gsA (m : Nat) : List Str := (List.range m).map (ldA bits ps0 o)
end
theorem tbA_succ (bits : Int) (ps0 : List Int) (o : List (List Nat)) (m : Nat) : tbA bits ps0 o (m + 1) = tbA bits ps0 o m ++ [enA bits ps0 o m] := by
  unfold tbA; rw [List.range_succ, List.map_append]; rfl
theorem gsA_succ (bits : Int) (ps0 : List Int) (o : List (List Nat)) (m : Nat) : gsA bits ps0 o (m + 1) = gsA bits ps0 o m ++ [ldA bits ps0 o m] := by
  unfold gsA; rw [List.range_succ, List.map_append]; rfl
theorem gsA_at (bits : Int) (ps0 : List Int) (o : List (List Nat)) {m n : Nat} (h : m < n) : gAt (gsA bits ps0 o n) m = ldA bits ps0 o m := by
  unfold gAt gsA
  rw [List.getD_eq_getElem?_getD, List.getElem?_map, List.getElem?_range h]; rfl
section
variable {n k : Nat} {p : List Nat} {o : List (List Nat)} {t f : Nat} {ex : List Int} (bits : Int) {ps0 : List Int}
theorem psA_perm (F : OrbF n k p o t f ex) (h0 : (ps0.map Int.toNat).Perm p) : ∀ m, m ≤ t → ((psA ps0 o m).map Int.toNat).Perm (oAt o m)
  | 0, _ => by rw [F.o0]; exact h0
  | m + 1, hm => by
    rw [F.chain m (by exact om_248 hm)]
    unfold psA stepP
    rw [next_nat]
    exact (List.perm_append_comm (l₁ := ((oAt o m).filter fun k => decide (1 < k)).map fun k => k - 1) (l₂ := [(oAt o m).length])).trans (insN_perm _ _).symm
theorem psA_nn (h0 : ∀ a ∈ ps0, 0 ≤ a) : ∀ m, ∀ a ∈ psA ps0 o m, 0 ≤ a
  | 0, a, ha => h0 a ha
  | m + 1, a, ha => by
    unfold psA nextP decL at ha
    rcases List.mem_append.mp ha with z | z
    · obtain ⟨b, hb, rfl⟩ := List.mem_map.mp z
      have := (List.mem_filter.mp hb).2
      have := of_decide_eq_true this
      exact om_249 this
    · obtain rfl := List.mem_singleton.mp z
      exact om_97
theorem ldA_F (F : OrbF n k p o t f ex) (h0 : (ps0.map Int.toNat).Perm p) {m : Nat} (hm : m ≤ t) : LeadF (ldA bits ps0 o m) (oAt o m) := lead_of bits (psA_perm F h0 m hm)
theorem ld_ws (F : OrbF n k p o t f ex) (h0 : (ps0.map Int.toNat).Perm p) {m : Nat} (hm : m ≤ t) : wsC (ldA bits ps0 o m) = cntF (oAt o m) [] ∧ wsNt (ldA bits ps0 o m) = ((oAt o m).length : Int) ∧ wsB (ldA bits ps0 o m) = 0 ∧ wsN (ldA bits ps0 o m) = (sumS (oAt o m) : Int) := by
  have h := (ldA_F bits F h0 hm).ws
  unfold wsC wsNt wsB wsN
  rw [h]
  exact ⟨rfl, rfl, rfl, rfl⟩
theorem cnt_inj {a b : List Nat} (ha : GoodF n k a) (hb : GoodF n k b) (e : cntF a [] = cntF b []) : a = b := by
  have h1 := ha.piles
  rw [e, hb.piles] at h1
  have h2 : toI b = toI a := List.map_inj_right (fun x y (e : D.int x = D.int y) => by cases e; rfl) |>.mp h1
  exact (List.map_inj_right (fun (x y : Nat) (e : (x : Int) = (y : Int)) => by exact om_250 e) |>.mp h2).symm
theorem eq_lead {a b : Str} {x y : List Nat} (ha : LeadF a x) (hb : LeadF b y) (gx : GoodF n k x) (gy : GoodF n k y) : eqG a b = decide (x = y) := by
  have h1 := ha.ws
  have h2 := hb.ws
  unfold eqG wsC wsB
  rw [h1, h2]
  show (cntF x [] == cntF y [] && ((0 : Int) == 0)) = _
  rw [show ((0 : Int) == 0) = true from rfl, Bool.and_true]
  by_cases e : x = y
  · subst e; simp
  · rw [decide_eq_false e]
    exact beq_eq_false_iff_ne.mpr fun z => e (cnt_inj gx gy z)
theorem bfA_F (F : OrbF n k p o t f ex) (h0 : (ps0.map Int.toNat).Perm p) : ∀ m, m ≤ t → wsB (bfA bits ps0 o m) = (m : Int) ∧ (∀ c ∈ (bfA bits ps0 o m).cps.toList, c = 9 ∨ c = 32 ∨ c = 120) ∧ (bfA bits ps0 o m).cps.toList.length ≤ 1000
  | 0, _ => by
    have e : ((bfA bits ps0 o 0)).cps.toList = [] := by show (("" : Str)).cps.toList = []; decide +kernel
    rw [e]
    refine ⟨?_, fun c hc => ?_, Nat.zero_le _⟩
    · show wsB "" = 0
      decide +kernel
    · cases hc
  | m + 1, hm => by
    have hl := ldA_F bits F h0 (m := m) (by exact om_251 hm)
    obtain ⟨h1, h2⟩ := before_ws hl m
    refine ⟨h1, chars_before hl m, ?_⟩
    show (beforeOf (ldA bits ps0 o m) m).cps.toList.length ≤ 1000
    have hg := F.good m (by exact om_252 hm h1)
    have ht := F.t170
    rw [before_list, List.length_append, List.length_append, List.length_replicate, hl.len, sumS_eq]
    have h3 := hg.l15
    have h4 : (oAt o m).sum ≤ 225 := by
      have : ∀ l : List Nat, (∀ a ∈ l, a ≤ 15) → l.sum ≤ 15 * l.length := by
        intro l
        induction l with
        | nil => intro _; exact Nat.le_refl _
        | cons a l ih => intro h; have := h a (.head _); have := ih fun b hb => h b (.tail _ hb); rw [List.sum_cons, List.length_cons]; exact om_253 ‹_› this
      have := this (oAt o m) fun a ha => (hg.small a ha).2
      exact om_254 h3 this
    show _ + (m + 1 + 2) ≤ 1000
    exact om_255 hm h1 ht h3 h4
theorem sum225 {q : List Nat} (hg : GoodF n k q) : q.sum ≤ 225 := by
  have : ∀ l : List Nat, (∀ a ∈ l, a ≤ 15) → l.sum ≤ 15 * l.length := by
    intro l
    induction l with
    | nil => intro _; exact Nat.le_refl _
    | cons a l ih => intro h; have := h a (.head _); have := ih fun b hb => h b (.tail _ hb); rw [List.sum_cons, List.length_cons]; exact om_253 ‹_› this
  have := this q fun a ha => (hg.small a ha).2
  have := hg.l15
  exact om_256 ‹_› this
theorem tb_low (F : OrbF n k p o t f ex) {m : Nat} (hm : m ≤ t + 1) : ∀ q ∈ tbA bits ps0 o m, ∃ i, i < m ∧ lowered q.1 = letters (toI (oAt o i)) ∧ q = enA bits ps0 o i := fun q hq => by
  unfold tbA at hq
  obtain ⟨i, hi, rfl⟩ := List.mem_map.mp hq
  have hi' := List.mem_range.mp hi
  exact ⟨i, hi', low_name i (F.good i (by exact om_257 hm hi')).small, rfl⟩
theorem pstp (F : OrbF n k p o t f ex) (h0 : (ps0.map Int.toNat).Perm p) (hn : ∀ a ∈ ps0, 0 ≤ a) {m : Nat} (hm : m ≤ t) : PStp bits m (psA ps0 o m) (toI (oAt o m)) (tbA bits ps0 o m) (bfA bits ps0 o m) (gsA bits ps0 o m) := by
  have hg := F.good m hm
  have ht := F.t170
  have hp := psA_perm F h0 m hm
  have hlen : (psA ps0 o m).length = (oAt o m).length := by have := hp.length_eq; rwa [List.length_map] at this
  have hw := ld_ws bits F h0 hm
  have hl := ldA_F bits F h0 hm
  have hnm := name_ok m hg.small (by have := hg.l15; omega)
  have hb := bfA_F bits F h0 m hm
  have h15 := hg.l15
  refine ⟨by unfold gsA; rw [List.length_map, List.length_range]; omega, by omega, by omega, fun a ha => ⟨psA_nn hn m a ha, ?_⟩, ?_, ?_, ?_, ?_, by unfold toI; rw [List.length_map]; omega, fun a ha => ?_, ?_, hnm.1, hnm.2.1, ?_, fun q hq => ?_, by unfold tbA; rw [List.length_map, List.length_range]; omega⟩
  · have h1 := hp.subset (List.mem_map_of_mem (f := Int.toNat) ha)
    have := (hg.small _ h1).2
    exact om_258 this
  · have := hl.len
    have := sum225 hg
    show (ldA bits ps0 o m).cps.toList.length ≤ 90000
    rw [hl.len, sumS_eq]; omega
  · show (wsC (ldA bits ps0 o m)).length ≤ 1000
    rw [hw.1]; exact hg.c1
  · show ∀ c ∈ wsC (ldA bits ps0 o m), _
    rw [hw.1]; exact hg.c2
  · show pilesD (wsC (ldA bits ps0 o m)) = _
    rw [hw.1]; exact hg.piles
  · unfold toI at ha
    obtain ⟨b, hb, rfl⟩ := List.mem_map.mp ha
    have := hg.small b hb
    exact om_259 this
  · rw [len_of (upper_letters hg.small), List.length_map]; unfold sizeLine; omega
  · exact noHit_of (by have := hb.2.2; rw [Array.length_toList] at this; exact om_65 this) (by decide +kernel) fun c hc => notIn_V (hb.2.1 c hc)
  · obtain ⟨i, hi, e, rfl⟩ := tb_low bits F (m := m) (by omega) q hq
    rw [e]
    have hgi := F.good i (by omega)
    exact (letters_ok hgi.small (by have := hgi.l15; exact om_260 this)).1
theorem nameLow (F : OrbF n k p o t f ex) {m : Nat} (hm : m ≤ t) : lowered (nameOf m (toI (oAt o m))) = letters (toI (oAt o m)) := low_name m (F.good m hm).small
theorem tb_ne (F : OrbF n k p o t f ex) {m : Nat} (hm : m ≤ t) {x : List Nat} (hx : ∀ i, i < m → oAt o i ≠ x) {nm : Str} (hnm : lowered nm = letters (toI x)) : ∀ q ∈ tbA bits ps0 o m, lowered q.1 ≠ lowered nm := fun q hq => by
  obtain ⟨i, hi, e, -⟩ := tb_low bits F (m := m) (by exact om_261 hm) q hq
  rw [e, hnm]
  exact fun z => hx i hi (letters_inj z)
theorem tb_split (bits : Int) (ps0 : List Int) (o : List (List Nat)) {f t : Nat} (h : f < t) : ∃ r, tbA bits ps0 o t = tbA bits ps0 o f ++ enA bits ps0 o f :: r := by
  refine ⟨(List.range' (f + 1) (t - (f + 1))).map (enA bits ps0 o), ?_⟩
  have e : List.range t = List.range f ++ f :: List.range' (f + 1) (t - (f + 1)) := by
    rw [← List.range'_succ, List.range_eq_range', List.range_eq_range']
    have := List.range'_append_1 (s := 0) (m := f) (n := t - (f + 1) + 1)
    rw [Nat.zero_add] at this
    rw [this]
    congr 1; exact om_262 h
  unfold tbA
  rw [e, List.map_append, List.map_cons]
theorem get_back (F : OrbF n k p o t f ex) {nm : Str} (hnm : lowered nm = letters (toI (oAt o f))) (r : List (Str × Str)) : getGo nm (tbA bits ps0 o t ++ r) = .str (bfA bits ps0 o f) := by
  obtain ⟨r', e⟩ := tb_split bits ps0 o F.ft
  have hft := F.ft
  rw [e, List.append_assoc, List.cons_append]
  exact getGo_app (p := enA bits ps0 o f) (by show lowered (nameOf f (toI (oAt o f))) = _; rw [nameLow F (by exact om_263 hft), hnm]) (tb_ne bits F (by exact om_263 hft) (x := oAt o f) (fun i hi => F.apart f i hft hi) hnm)
theorem play_of (F : OrbF n k p o t f ex) (h0 : (ps0.map Int.toNat).Perm p) (hn : ∀ a ∈ ps0, 0 ≤ a) : ∀ d m, m + d = t → Play bits m (psA ps0 o m) (tbA bits ps0 o m) (bfA bits ps0 o m) (gsA bits ps0 o m) (gsA bits ps0 o (t + 1)) (tbA bits ps0 o t) (bfA bits ps0 o f)
  | 0, m, e => by
    have e' : m = t := by exact om_264 e
    subst e'
    have hft := F.ft
    rw [gsA_succ]
    refine Play.stop (pstp bits F h0 hn (Nat.le_refl _)) ?_ ?_
    · have := get_back bits (ps0 := ps0) F (nm := nameOf m (toI (oAt o m))) (by rw [nameLow F (Nat.le_refl _), F.back]) []
      rwa [List.append_nil] at this
    · refine beq_eq_false_iff_ne.mpr fun z => ?_
      have h1 := (bfA_F bits F h0 f (by exact om_265 hft)).1
      have h2 := (bfA_F bits F h0 m (Nat.le_refl _)).1
      rw [z, h2] at h1
      exact om_266 hft h1
  | d + 1, m, e => by
    have hm : m < t := by exact om_267 e
    have hw := ld_ws bits F h0 (m := m) (by exact om_268 e hm)
    refine Play.next (pstp bits F h0 hn (by exact om_268 e hm)) (getGo_none (tb_ne bits F (by exact om_268 e hm) (x := oAt o m) (fun i hi => F.apart m i hm hi) (nameLow F (by exact om_268 e hm)))) ?_
    have := play_of F h0 hn d (m + 1) (by exact om_269 e)
    rw [tbA_succ, gsA_succ] at this
    have e1 : wsNt (leadP bits (psA ps0 o m) 0 "") = ((oAt o m).length : Int) := hw.2.1
    rw [e1]
    exact this
end
end Lw
end
section
namespace Lw
open PySem PySem.Calls PyProof.Rows PySem.W
noncomputable def T_1 : List Ent := [([1], 0, 1, [0,0], 0)]
theorem tab_1 : tabOk 1 1 T_1 = true := by decide +kernel
noncomputable def T_2 : List Ent := [([1,1], 1, 2, [0,1,0], 0), ([2], 0, 2, [1,0,1], 0)]
theorem tab_2 : tabOk 2 1 T_2 = true := by decide +kernel
noncomputable def T_3 : List Ent := [([1,1,1], 2, 0, [0,2,1,1], 2), ([1,2], 1, 1, [1,1], 0), ([3], 1, 0, [2,1,1], 1)]
theorem tab_3 : tabOk 3 2 T_3 = true := by decide +kernel
noncomputable def T_4 : List Ent := [([1,1,1,1], 4, 0, [0,4,2,3,1,2], 2), ([1,1,2], 2, 3, [1,2,3,1], 0), ([1,3], 3, 3, [2,3,1,2], 0), ([2,2], 1, 3, [3,1,2,3], 0), ([4], 2, 0, [4,2,3,1,2], 1)]
theorem tab_4 : tabOk 4 2 T_4 = true := by decide +kernel
noncomputable def T_5 : List Ent := [([1,1,1,1,1], 6, 0, [0,6,4,5,3,2,5], 3), ([1,1,1,2], 4, 0, [1,4,5,3,2,5], 2), ([1,1,3], 5, 3, [2,5,3,2], 0), ([1,2,2], 2, 3, [3,2,5,3], 0), ([1,4], 5, 0, [4,5,3,2,5], 1), ([2,3], 3, 3, [5,3,2,5], 0), ([5], 4, 0, [6,4,5,3,2,5], 2)]
theorem tab_5 : tabOk 5 2 T_5 = true := by decide +kernel
noncomputable def T_6 : List Ent := [([1,1,1,1,1,1], 10, 0, [0,10,6,8,5,5], 4), ([1,1,1,1,2], 6, 0, [1,6,8,5,5], 3), ([1,1,1,3], 8, 0, [2,8,5,5], 2), ([1,1,2,2], 4, 0, [3,4,9,7,2,8,5,5], 6), ([1,1,4], 9, 0, [4,9,7,2,8,5,5], 5), ([1,2,3], 5, 1, [5,5], 0), ([1,5], 8, 0, [6,8,5,5], 2), ([2,2,2], 2, 0, [7,2,8,5,5], 3), ([2,4], 5, 0, [8,5,5], 1), ([3,3], 7, 0, [9,7,2,8,5,5], 4), ([6], 6, 0, [10,6,8,5,5], 3)]
theorem tab_6 : tabOk 6 3 T_6 = true := by decide +kernel
noncomputable def T_7 : List Ent := [([1,1,1,1,1,1,1], 14, 0, [0,14,10,12,8,9,11,5,8], 4), ([1,1,1,1,1,2], 10, 0, [1,10,12,8,9,11,5,8], 3), ([1,1,1,1,3], 12, 0, [2,12,8,9,11,5,8], 2), ([1,1,1,2,2], 6, 0, [3,6,13,11,5,8,9,11], 3), ([1,1,1,4], 13, 0, [4,13,11,5,8,9,11], 2), ([1,1,2,3], 8, 4, [5,8,9,11,5], 0), ([1,1,5], 13, 0, [6,13,11,5,8,9,11], 2), ([1,2,2,2], 4, 0, [7,4,13,11,5,8,9,11], 3), ([1,2,4], 9, 4, [8,9,11,5,8], 0), ([1,3,3], 11, 4, [9,11,5,8,9], 0), ([1,6], 12, 0, [10,12,8,9,11,5,8], 2), ([2,2,3], 5, 4, [11,5,8,9,11], 0), ([2,5], 8, 0, [12,8,9,11,5,8], 1), ([3,4], 11, 0, [13,11,5,8,9,11], 1), ([7], 10, 0, [14,10,12,8,9,11,5,8], 3)]
theorem tab_7 : tabOk 7 3 T_7 = true := by decide +kernel
noncomputable def T_8 : List Ent := [([1,1,1,1,1,1,1,1], 21, 0, [0,21,14,18,12,13,17,11,8,13], 5), ([1,1,1,1,1,1,2], 14, 0, [1,14,18,12,13,17,11,8,13], 4), ([1,1,1,1,1,3], 18, 0, [2,18,12,13,17,11,8,13], 3), ([1,1,1,1,2,2], 10, 0, [3,10,19,16,9,16], 3), ([1,1,1,1,4], 19, 0, [4,19,16,9,16], 2), ([1,1,1,2,3], 12, 0, [5,12,13,17,11,8,13], 2), ([1,1,1,5], 20, 0, [6,20,17,11,8,13,17], 2), ([1,1,2,2,2], 6, 0, [7,6,20,17,11,8,13,17], 3), ([1,1,2,4], 13, 4, [8,13,17,11,8], 0), ([1,1,3,3], 16, 2, [9,16,9], 0), ([1,1,6], 19, 0, [10,19,16,9,16], 2), ([1,2,2,3], 8, 4, [11,8,13,17,11], 0), ([1,2,5], 13, 0, [12,13,17,11,8,13], 1), ([1,3,4], 17, 4, [13,17,11,8,13], 0), ([1,7], 18, 0, [14,18,12,13,17,11,8,13], 3), ([2,2,2,2], 4, 0, [15,4,19,16,9,16], 3), ([2,2,4], 9, 2, [16,9,16], 0), ([2,3,3], 11, 4, [17,11,8,13,17], 0), ([2,6], 12, 0, [18,12,13,17,11,8,13], 2), ([3,5], 16, 0, [19,16,9,16], 1), ([4,4], 17, 0, [20,17,11,8,13,17], 1), ([8], 14, 0, [21,14,18,12,13,17,11,8,13], 4)]
theorem tab_8 : tabOk 8 3 T_8 = true := by decide +kernel
noncomputable def T_9 : List Ent := [([1,1,1,1,1,1,1,1,1], 29, 0, [0,29,21,25,18,19,24,17,16,13,24], 6), ([1,1,1,1,1,1,1,2], 21, 0, [1,21,25,18,19,24,17,16,13,24], 5), ([1,1,1,1,1,1,3], 25, 0, [2,25,18,19,24,17,16,13,24], 4), ([1,1,1,1,1,2,2], 14, 0, [3,14,27,23,13,24,17,16,13], 4), ([1,1,1,1,1,4], 27, 0, [4,27,23,13,24,17,16,13], 3), ([1,1,1,1,2,3], 18, 0, [5,18,19,24,17,16,13,24], 3), ([1,1,1,1,5], 28, 0, [6,28,24,17,16,13,24], 2), ([1,1,1,2,2,2], 10, 0, [7,10,28,24,17,16,13,24], 3), ([1,1,1,2,4], 19, 0, [8,19,24,17,16,13,24], 2), ([1,1,1,3,3], 23, 0, [9,23,13,24,17,16,13], 2), ([1,1,1,6], 28, 0, [10,28,24,17,16,13,24], 2), ([1,1,2,2,3], 12, 0, [11,12,20,26,22,8,19,24,17,16,13,24], 7), ([1,1,2,5], 20, 0, [12,20,26,22,8,19,24,17,16,13,24], 6), ([1,1,3,4], 24, 4, [13,24,17,16,13], 0), ([1,1,7], 27, 0, [14,27,23,13,24,17,16,13], 3), ([1,2,2,2,2], 6, 0, [15,6,28,24,17,16,13,24], 3), ([1,2,2,4], 13, 4, [16,13,24,17,16], 0), ([1,2,3,3], 16, 4, [17,16,13,24,17], 0), ([1,2,6], 19, 0, [18,19,24,17,16,13,24], 2), ([1,3,5], 24, 0, [19,24,17,16,13,24], 1), ([1,4,4], 26, 0, [20,26,22,8,19,24,17,16,13,24], 5), ([1,8], 25, 0, [21,25,18,19,24,17,16,13,24], 4), ([2,2,2,3], 8, 0, [22,8,19,24,17,16,13,24], 3), ([2,2,5], 13, 0, [23,13,24,17,16,13], 1), ([2,3,4], 17, 4, [24,17,16,13,24], 0), ([2,7], 18, 0, [25,18,19,24,17,16,13,24], 3), ([3,3,3], 22, 0, [26,22,8,19,24,17,16,13,24], 4), ([3,6], 23, 0, [27,23,13,24,17,16,13], 2), ([4,5], 24, 0, [28,24,17,16,13,24], 1), ([9], 21, 0, [29,21,25,18,19,24,17,16,13,24], 5)]
theorem tab_9 : tabOk 9 3 T_9 = true := by decide +kernel
noncomputable def T_10 : List Ent := [([1,1,1,1,1,1,1,1,1,1], 41, 0, [0,41,29,36,25,27,34,24,24], 7), ([1,1,1,1,1,1,1,1,2], 29, 0, [1,29,36,25,27,34,24,24], 6), ([1,1,1,1,1,1,1,3], 36, 0, [2,36,25,27,34,24,24], 5), ([1,1,1,1,1,1,2,2], 21, 0, [3,21,38,33,19,35,26,31,13,34,24,24], 10), ([1,1,1,1,1,1,4], 38, 0, [4,38,33,19,35,26,31,13,34,24,24], 9), ([1,1,1,1,1,2,3], 25, 0, [5,25,27,34,24,24], 4), ([1,1,1,1,1,5], 39, 0, [6,39,34,24,24], 3), ([1,1,1,1,2,2,2], 14, 0, [7,14,39,34,24,24], 4), ([1,1,1,1,2,4], 27, 0, [8,27,34,24,24], 3), ([1,1,1,1,3,3], 33, 0, [9,33,19,35,26,31,13,34,24,24], 8), ([1,1,1,1,6], 40, 0, [10,40,35,26,31,13,34,24,24], 7), ([1,1,1,2,2,3], 18, 0, [11,18,28,37,32,16,19,35,26,31,13,34,24,24], 12), ([1,1,1,2,5], 28, 0, [12,28,37,32,16,19,35,26,31,13,34,24,24], 11), ([1,1,1,3,4], 34, 0, [13,34,24,24], 2), ([1,1,1,7], 39, 0, [14,39,34,24,24], 3), ([1,1,2,2,2,2], 10, 0, [15,10,40,35,26,31,13,34,24,24], 8), ([1,1,2,2,4], 19, 0, [16,19,35,26,31,13,34,24,24], 7), ([1,1,2,3,3], 23, 0, [17,23,20,37,32,16,19,35,26,31,13,34,24,24], 12), ([1,1,2,6], 28, 0, [18,28,37,32,16,19,35,26,31,13,34,24,24], 11), ([1,1,3,5], 35, 0, [19,35,26,31,13,34,24,24], 6), ([1,1,4,4], 37, 0, [20,37,32,16,19,35,26,31,13,34,24,24], 10), ([1,1,8], 38, 0, [21,38,33,19,35,26,31,13,34,24,24], 9), ([1,2,2,2,3], 12, 0, [22,12,28,37,32,16,19,35,26,31,13,34,24,24], 12), ([1,2,2,5], 20, 0, [23,20,37,32,16,19,35,26,31,13,34,24,24], 11), ([1,2,3,4], 24, 1, [24,24], 0), ([1,2,7], 27, 0, [25,27,34,24,24], 3), ([1,3,3,3], 31, 0, [26,31,13,34,24,24], 4), ([1,3,6], 34, 0, [27,34,24,24], 2), ([1,4,5], 37, 0, [28,37,32,16,19,35,26,31,13,34,24,24], 10), ([1,9], 36, 0, [29,36,25,27,34,24,24], 5), ([2,2,2,2,2], 6, 0, [30,6,39,34,24,24], 4), ([2,2,2,4], 13, 0, [31,13,34,24,24], 3), ([2,2,3,3], 16, 0, [32,16,19,35,26,31,13,34,24,24], 8), ([2,2,6], 19, 0, [33,19,35,26,31,13,34,24,24], 7), ([2,3,5], 24, 0, [34,24,24], 1), ([2,4,4], 26, 0, [35,26,31,13,34,24,24], 5), ([2,8], 25, 0, [36,25,27,34,24,24], 4), ([3,3,4], 32, 0, [37,32,16,19,35,26,31,13,34,24,24], 9), ([3,7], 33, 0, [38,33,19,35,26,31,13,34,24,24], 8), ([4,6], 34, 0, [39,34,24,24], 2), ([5,5], 35, 0, [40,35,26,31,13,34,24,24], 6), ([10], 29, 0, [41,29,36,25,27,34,24,24], 6)]
theorem tab_10 : tabOk 10 4 T_10 = true := by decide +kernel
noncomputable def T_11 : List Ent := [([1,1,1,1,1,1,1,1,1,1,1], 55, 0, [0,55,41,49,36,38,47,34,35,37,44,24,34], 7), ([1,1,1,1,1,1,1,1,1,2], 41, 0, [1,41,49,36,38,47,34,35,37,44,24,34], 6), ([1,1,1,1,1,1,1,1,3], 49, 0, [2,49,36,38,47,34,35,37,44,24,34], 5), ([1,1,1,1,1,1,1,2,2], 29, 0, [3,29,52,45,27,48,37,44,24,34,35,37], 6), ([1,1,1,1,1,1,1,4], 52, 0, [4,52,45,27,48,37,44,24,34,35,37], 5), ([1,1,1,1,1,1,2,3], 36, 0, [5,36,38,47,34,35,37,44,24,34], 4), ([1,1,1,1,1,1,5], 53, 0, [6,53,47,34,35,37,44,24,34], 3), ([1,1,1,1,1,2,2,2], 21, 0, [7,21,53,47,34,35,37,44,24,34], 4), ([1,1,1,1,1,2,4], 38, 0, [8,38,47,34,35,37,44,24,34], 3), ([1,1,1,1,1,3,3], 45, 0, [9,45,27,48,37,44,24,34,35,37], 4), ([1,1,1,1,1,6], 54, 0, [10,54,48,37,44,24,34,35,37], 3), ([1,1,1,1,2,2,3], 25, 0, [11,25,39,50,44,24,34,35,37,44], 4), ([1,1,1,1,2,5], 39, 0, [12,39,50,44,24,34,35,37,44], 3), ([1,1,1,1,3,4], 47, 0, [13,47,34,35,37,44,24,34], 2), ([1,1,1,1,7], 54, 0, [14,54,48,37,44,24,34,35,37], 3), ([1,1,1,2,2,2,2], 14, 0, [15,14,54,48,37,44,24,34,35,37], 4), ([1,1,1,2,2,4], 27, 0, [16,27,48,37,44,24,34,35,37], 3), ([1,1,1,2,3,3], 33, 0, [17,33,28,51,46,31,19,48,37,44,24,34,35,37], 8), ([1,1,1,2,6], 40, 0, [18,40,51,46,31,19,48,37,44,24,34,35,37], 7), ([1,1,1,3,5], 48, 0, [19,48,37,44,24,34,35,37], 2), ([1,1,1,4,4], 50, 0, [20,50,44,24,34,35,37,44], 2), ([1,1,1,8], 53, 0, [21,53,47,34,35,37,44,24,34], 3), ([1,1,2,2,2,3], 18, 0, [22,18,40,51,46,31,19,48,37,44,24,34,35,37], 8), ([1,1,2,2,5], 28, 0, [23,28,51,46,31,19,48,37,44,24,34,35,37], 7), ([1,1,2,3,4], 34, 5, [24,34,35,37,44,24], 0), ([1,1,2,7], 39, 0, [25,39,50,44,24,34,35,37,44], 3), ([1,1,3,3,3], 43, 0, [26,43,20,50,44,24,34,35,37,44], 4), ([1,1,3,6], 48, 0, [27,48,37,44,24,34,35,37], 2), ([1,1,4,5], 51, 0, [28,51,46,31,19,48,37,44,24,34,35,37], 6), ([1,1,9], 52, 0, [29,52,45,27,48,37,44,24,34,35,37], 5), ([1,2,2,2,2,2], 10, 0, [30,10,54,48,37,44,24,34,35,37], 4), ([1,2,2,2,4], 19, 0, [31,19,48,37,44,24,34,35,37], 3), ([1,2,2,3,3], 23, 0, [32,23,28,51,46,31,19,48,37,44,24,34,35,37], 8), ([1,2,2,6], 28, 0, [33,28,51,46,31,19,48,37,44,24,34,35,37], 7), ([1,2,3,5], 35, 5, [34,35,37,44,24,34], 0), ([1,2,4,4], 37, 5, [35,37,44,24,34,35], 0), ([1,2,8], 38, 0, [36,38,47,34,35,37,44,24,34], 3), ([1,3,3,4], 44, 5, [37,44,24,34,35,37], 0), ([1,3,7], 47, 0, [38,47,34,35,37,44,24,34], 2), ([1,4,6], 50, 0, [39,50,44,24,34,35,37,44], 2), ([1,5,5], 51, 0, [40,51,46,31,19,48,37,44,24,34,35,37], 6), ([1,10], 49, 0, [41,49,36,38,47,34,35,37,44,24,34], 5), ([2,2,2,2,3], 12, 0, [42,12,39,50,44,24,34,35,37,44], 4), ([2,2,2,5], 20, 0, [43,20,50,44,24,34,35,37,44], 3), ([2,2,3,4], 24, 5, [44,24,34,35,37,44], 0), ([2,2,7], 27, 0, [45,27,48,37,44,24,34,35,37], 3), ([2,3,3,3], 31, 0, [46,31,19,48,37,44,24,34,35,37], 4), ([2,3,6], 34, 0, [47,34,35,37,44,24,34], 1), ([2,4,5], 37, 0, [48,37,44,24,34,35,37], 1), ([2,9], 36, 0, [49,36,38,47,34,35,37,44,24,34], 4), ([3,3,5], 44, 0, [50,44,24,34,35,37,44], 1), ([3,4,4], 46, 0, [51,46,31,19,48,37,44,24,34,35,37], 5), ([3,8], 45, 0, [52,45,27,48,37,44,24,34,35,37], 4), ([4,7], 47, 0, [53,47,34,35,37,44,24,34], 2), ([5,6], 48, 0, [54,48,37,44,24,34,35,37], 2), ([11], 41, 0, [55,41,49,36,38,47,34,35,37,44,24,34], 6)]
theorem tab_11 : tabOk 11 4 T_11 = true := by decide +kernel
noncomputable def T_12 : List Ent := [([1,1,1,1,1,1,1,1,1,1,1,1], 76, 0, [0,76,55,67,49,52,64,47,48,51,63,44,34,48], 8), ([1,1,1,1,1,1,1,1,1,1,2], 55, 0, [1,55,67,49,52,64,47,48,51,63,44,34,48], 7), ([1,1,1,1,1,1,1,1,1,3], 67, 0, [2,67,49,52,64,47,48,51,63,44,34,48], 6), ([1,1,1,1,1,1,1,1,2,2], 41, 0, [3,41,71,62,38,65,50,61,37,60,35,50], 6), ([1,1,1,1,1,1,1,1,4], 71, 0, [4,71,62,38,65,50,61,37,60,35,50], 5), ([1,1,1,1,1,1,1,2,3], 49, 0, [5,49,52,64,47,48,51,63,44,34,48], 5), ([1,1,1,1,1,1,1,5], 73, 0, [6,73,64,47,48,51,63,44,34,48], 4), ([1,1,1,1,1,1,2,2,2], 29, 0, [7,29,73,64,47,48,51,63,44,34,48], 5), ([1,1,1,1,1,1,2,4], 52, 0, [8,52,64,47,48,51,63,44,34,48], 4), ([1,1,1,1,1,1,3,3], 62, 0, [9,62,38,65,50,61,37,60,35,50], 4), ([1,1,1,1,1,1,6], 74, 0, [10,74,65,50,61,37,60,35,50], 3), ([1,1,1,1,1,2,2,3], 36, 0, [11,36,53,69,60,35,50,61,37,60], 4), ([1,1,1,1,1,2,5], 53, 0, [12,53,69,60,35,50,61,37,60], 3), ([1,1,1,1,1,3,4], 64, 0, [13,64,47,48,51,63,44,34,48], 3), ([1,1,1,1,1,7], 75, 0, [14,75,66,51,63,44,34,48,51], 3), ([1,1,1,1,2,2,2,2], 21, 0, [15,21,74,65,50,61,37,60,35,50], 4), ([1,1,1,1,2,2,4], 38, 0, [16,38,65,50,61,37,60,35,50], 3), ([1,1,1,1,2,3,3], 45, 0, [17,45,39,70,63,44,34,48,51,63], 4), ([1,1,1,1,2,6], 54, 0, [18,54,70,63,44,34,48,51,63], 3), ([1,1,1,1,3,5], 65, 0, [19,65,50,61,37,60,35,50], 2), ([1,1,1,1,4,4], 69, 0, [20,69,60,35,50,61,37,60], 2), ([1,1,1,1,8], 74, 0, [21,74,65,50,61,37,60,35,50], 3), ([1,1,1,2,2,2,3], 25, 0, [22,25,54,70,63,44,34,48,51,63], 4), ([1,1,1,2,2,5], 39, 0, [23,39,70,63,44,34,48,51,63], 3), ([1,1,1,2,3,4], 47, 0, [24,47,48,51,63,44,34,48], 2), ([1,1,1,2,7], 54, 0, [25,54,70,63,44,34,48,51,63], 3), ([1,1,1,3,3,3], 59, 0, [26,59,28,70,63,44,34,48,51,63], 4), ([1,1,1,3,6], 66, 0, [27,66,51,63,44,34,48,51], 2), ([1,1,1,4,5], 70, 0, [28,70,63,44,34,48,51,63], 2), ([1,1,1,9], 73, 0, [29,73,64,47,48,51,63,44,34,48], 4), ([1,1,2,2,2,2,2], 14, 0, [30,14,75,66,51,63,44,34,48,51], 4), ([1,1,2,2,2,4], 27, 0, [31,27,66,51,63,44,34,48,51], 3), ([1,1,2,2,3,3], 33, 0, [32,33,40,72,68,57,19,65,50,61,37,60,35,50], 8), ([1,1,2,2,6], 40, 0, [33,40,72,68,57,19,65,50,61,37,60,35,50], 7), ([1,1,2,3,5], 48, 5, [34,48,51,63,44,34], 0), ([1,1,2,4,4], 50, 5, [35,50,61,37,60,35], 0), ([1,1,2,8], 53, 0, [36,53,69,60,35,50,61,37,60], 3), ([1,1,3,3,4], 60, 5, [37,60,35,50,61,37], 0), ([1,1,3,7], 65, 0, [38,65,50,61,37,60,35,50], 2), ([1,1,4,6], 70, 0, [39,70,63,44,34,48,51,63], 2), ([1,1,5,5], 72, 0, [40,72,68,57,19,65,50,61,37,60,35,50], 6), ([1,1,10], 71, 0, [41,71,62,38,65,50,61,37,60,35,50], 5), ([1,2,2,2,2,3], 18, 0, [42,18,54,70,63,44,34,48,51,63], 4), ([1,2,2,2,5], 28, 0, [43,28,70,63,44,34,48,51,63], 3), ([1,2,2,3,4], 34, 5, [44,34,48,51,63,44], 0), ([1,2,2,7], 39, 0, [45,39,70,63,44,34,48,51,63], 3), ([1,2,3,3,3], 43, 0, [46,43,28,70,63,44,34,48,51,63], 4), ([1,2,3,6], 48, 0, [47,48,51,63,44,34,48], 1), ([1,2,4,5], 51, 5, [48,51,63,44,34,48], 0), ([1,2,9], 52, 0, [49,52,64,47,48,51,63,44,34,48], 4), ([1,3,3,5], 61, 5, [50,61,37,60,35,50], 0), ([1,3,4,4], 63, 5, [51,63,44,34,48,51], 0), ([1,3,8], 64, 0, [52,64,47,48,51,63,44,34,48], 3), ([1,4,7], 69, 0, [53,69,60,35,50,61,37,60], 2), ([1,5,6], 70, 0, [54,70,63,44,34,48,51,63], 2), ([1,11], 67, 0, [55,67,49,52,64,47,48,51,63,44,34,48], 6), ([2,2,2,2,2,2], 10, 0, [56,10,74,65,50,61,37,60,35,50], 4), ([2,2,2,2,4], 19, 0, [57,19,65,50,61,37,60,35,50], 3), ([2,2,2,3,3], 23, 0, [58,23,39,70,63,44,34,48,51,63], 4), ([2,2,2,6], 28, 0, [59,28,70,63,44,34,48,51,63], 3), ([2,2,3,5], 35, 5, [60,35,50,61,37,60], 0), ([2,2,4,4], 37, 5, [61,37,60,35,50,61], 0), ([2,2,8], 38, 0, [62,38,65,50,61,37,60,35,50], 3), ([2,3,3,4], 44, 5, [63,44,34,48,51,63], 0), ([2,3,7], 47, 0, [64,47,48,51,63,44,34,48], 2), ([2,4,6], 50, 0, [65,50,61,37,60,35,50], 1), ([2,5,5], 51, 0, [66,51,63,44,34,48,51], 1), ([2,10], 49, 0, [67,49,52,64,47,48,51,63,44,34,48], 5), ([3,3,3,3], 57, 0, [68,57,19,65,50,61,37,60,35,50], 4), ([3,3,6], 60, 0, [69,60,35,50,61,37,60], 1), ([3,4,5], 63, 0, [70,63,44,34,48,51,63], 1), ([3,9], 62, 0, [71,62,38,65,50,61,37,60,35,50], 4), ([4,4,4], 68, 0, [72,68,57,19,65,50,61,37,60,35,50], 5), ([4,8], 64, 0, [73,64,47,48,51,63,44,34,48], 3), ([5,7], 65, 0, [74,65,50,61,37,60,35,50], 2), ([6,6], 66, 0, [75,66,51,63,44,34,48,51], 2), ([12], 55, 0, [76,55,67,49,52,64,47,48,51,63,44,34,48], 7)]
theorem tab_12 : tabOk 12 4 T_12 = true := by decide +kernel
noncomputable def T_13 : List Ent := [([1,1,1,1,1,1,1,1,1,1,1,1,1], 100, 0, [0,100,76,90,67,71,87,64,65,70,86,63,60,48,70], 9), ([1,1,1,1,1,1,1,1,1,1,1,2], 76, 0, [1,76,90,67,71,87,64,65,70,86,63,60,48,70], 8), ([1,1,1,1,1,1,1,1,1,1,3], 90, 0, [2,90,67,71,87,64,65,70,86,63,60,48,70], 7), ([1,1,1,1,1,1,1,1,1,2,2], 55, 0, [3,55,95,84,52,88,69,83,51,85,61,50,83], 7), ([1,1,1,1,1,1,1,1,1,4], 95, 0, [4,95,84,52,88,69,83,51,85,61,50,83], 6), ([1,1,1,1,1,1,1,1,2,3], 67, 0, [5,67,71,87,64,65,70,86,63,60,48,70], 6), ([1,1,1,1,1,1,1,1,5], 97, 0, [6,97,87,64,65,70,86,63,60,48,70], 5), ([1,1,1,1,1,1,1,2,2,2], 41, 0, [7,41,97,87,64,65,70,86,63,60,48,70], 6), ([1,1,1,1,1,1,1,2,4], 71, 0, [8,71,87,64,65,70,86,63,60,48,70], 5), ([1,1,1,1,1,1,1,3,3], 84, 0, [9,84,52,88,69,83,51,85,61,50,83], 5), ([1,1,1,1,1,1,1,6], 98, 0, [10,98,88,69,83,51,85,61,50,83], 4), ([1,1,1,1,1,1,2,2,3], 49, 0, [11,49,73,92,82,48,70,86,63,60,48], 5), ([1,1,1,1,1,1,2,5], 73, 0, [12,73,92,82,48,70,86,63,60,48], 4), ([1,1,1,1,1,1,3,4], 87, 0, [13,87,64,65,70,86,63,60,48,70], 4), ([1,1,1,1,1,1,7], 99, 0, [14,99,89,70,86,63,60,48,70], 3), ([1,1,1,1,1,2,2,2,2], 29, 0, [15,29,98,88,69,83,51,85,61,50,83], 5), ([1,1,1,1,1,2,2,4], 52, 0, [16,52,88,69,83,51,85,61,50,83], 4), ([1,1,1,1,1,2,3,3], 62, 0, [17,62,53,93,85,61,50,83,51,85], 4), ([1,1,1,1,1,2,6], 74, 0, [18,74,93,85,61,50,83,51,85], 3), ([1,1,1,1,1,3,5], 88, 0, [19,88,69,83,51,85,61,50,83], 3), ([1,1,1,1,1,4,4], 92, 0, [20,92,82,48,70,86,63,60,48], 3), ([1,1,1,1,1,8], 99, 0, [21,99,89,70,86,63,60,48,70], 3), ([1,1,1,1,2,2,2,3], 36, 0, [22,36,74,93,85,61,50,83,51,85], 4), ([1,1,1,1,2,2,5], 53, 0, [23,53,93,85,61,50,83,51,85], 3), ([1,1,1,1,2,3,4], 64, 0, [24,64,65,70,86,63,60,48,70], 3), ([1,1,1,1,2,7], 75, 0, [25,75,94,86,63,60,48,70,86], 3), ([1,1,1,1,3,3,3], 80, 0, [26,80,39,94,86,63,60,48,70,86], 4), ([1,1,1,1,3,6], 89, 0, [27,89,70,86,63,60,48,70], 2), ([1,1,1,1,4,5], 93, 0, [28,93,85,61,50,83,51,85], 2), ([1,1,1,1,9], 98, 0, [29,98,88,69,83,51,85,61,50,83], 4), ([1,1,1,2,2,2,2,2], 21, 0, [30,21,99,89,70,86,63,60,48,70], 4), ([1,1,1,2,2,2,4], 38, 0, [31,38,89,70,86,63,60,48,70], 3), ([1,1,1,2,2,3,3], 45, 0, [32,45,54,96,91,79,34,65,70,86,63,60,48,70], 8), ([1,1,1,2,2,6], 54, 0, [33,54,96,91,79,34,65,70,86,63,60,48,70], 7), ([1,1,1,2,3,5], 65, 0, [34,65,70,86,63,60,48,70], 2), ([1,1,1,2,4,4], 69, 0, [35,69,83,51,85,61,50,83], 2), ([1,1,1,2,8], 74, 0, [36,74,93,85,61,50,83,51,85], 3), ([1,1,1,3,3,4], 82, 0, [37,82,48,70,86,63,60,48], 2), ([1,1,1,3,7], 89, 0, [38,89,70,86,63,60,48,70], 2), ([1,1,1,4,6], 94, 0, [39,94,86,63,60,48,70,86], 2), ([1,1,1,5,5], 96, 0, [40,96,91,79,34,65,70,86,63,60,48,70], 6), ([1,1,1,10], 97, 0, [41,97,87,64,65,70,86,63,60,48,70], 5), ([1,1,2,2,2,2,3], 25, 0, [42,25,75,94,86,63,60,48,70,86], 4), ([1,1,2,2,2,5], 39, 0, [43,39,94,86,63,60,48,70,86], 3), ([1,1,2,2,3,4], 47, 0, [44,47,66,72,91,79,34,65,70,86,63,60,48,70], 8), ([1,1,2,2,7], 54, 0, [45,54,96,91,79,34,65,70,86,63,60,48,70], 7), ([1,1,2,3,3,3], 59, 0, [46,59,40,96,91,79,34,65,70,86,63,60,48,70], 8), ([1,1,2,3,6], 66, 0, [47,66,72,91,79,34,65,70,86,63,60,48,70], 7), ([1,1,2,4,5], 70, 5, [48,70,86,63,60,48], 0), ([1,1,2,9], 73, 0, [49,73,92,82,48,70,86,63,60,48], 4), ([1,1,3,3,5], 83, 5, [50,83,51,85,61,50], 0), ([1,1,3,4,4], 85, 5, [51,85,61,50,83,51], 0), ([1,1,3,8], 88, 0, [52,88,69,83,51,85,61,50,83], 3), ([1,1,4,7], 93, 0, [53,93,85,61,50,83,51,85], 2), ([1,1,5,6], 96, 0, [54,96,91,79,34,65,70,86,63,60,48,70], 6), ([1,1,11], 95, 0, [55,95,84,52,88,69,83,51,85,61,50,83], 6), ([1,2,2,2,2,2,2], 14, 0, [56,14,99,89,70,86,63,60,48,70], 4), ([1,2,2,2,2,4], 27, 0, [57,27,89,70,86,63,60,48,70], 3), ([1,2,2,2,3,3], 33, 0, [58,33,54,96,91,79,34,65,70,86,63,60,48,70], 8), ([1,2,2,2,6], 40, 0, [59,40,96,91,79,34,65,70,86,63,60,48,70], 7), ([1,2,2,3,5], 48, 5, [60,48,70,86,63,60], 0), ([1,2,2,4,4], 50, 5, [61,50,83,51,85,61], 0), ([1,2,2,8], 53, 0, [62,53,93,85,61,50,83,51,85], 3), ([1,2,3,3,4], 60, 5, [63,60,48,70,86,63], 0), ([1,2,3,7], 65, 0, [64,65,70,86,63,60,48,70], 2), ([1,2,4,6], 70, 0, [65,70,86,63,60,48,70], 1), ([1,2,5,5], 72, 0, [66,72,91,79,34,65,70,86,63,60,48,70], 6), ([1,2,10], 71, 0, [67,71,87,64,65,70,86,63,60,48,70], 5), ([1,3,3,3,3], 78, 0, [68,78,28,93,85,61,50,83,51,85], 4), ([1,3,3,6], 83, 0, [69,83,51,85,61,50,83], 1), ([1,3,4,5], 86, 5, [70,86,63,60,48,70], 0), ([1,3,9], 87, 0, [71,87,64,65,70,86,63,60,48,70], 4), ([1,4,4,4], 91, 0, [72,91,79,34,65,70,86,63,60,48,70], 5), ([1,4,8], 92, 0, [73,92,82,48,70,86,63,60,48], 3), ([1,5,7], 93, 0, [74,93,85,61,50,83,51,85], 2), ([1,6,6], 94, 0, [75,94,86,63,60,48,70,86], 2), ([1,12], 90, 0, [76,90,67,71,87,64,65,70,86,63,60,48,70], 7), ([2,2,2,2,2,3], 18, 0, [77,18,74,93,85,61,50,83,51,85], 4), ([2,2,2,2,5], 28, 0, [78,28,93,85,61,50,83,51,85], 3), ([2,2,2,3,4], 34, 0, [79,34,65,70,86,63,60,48,70], 3), ([2,2,2,7], 39, 0, [80,39,94,86,63,60,48,70,86], 3), ([2,2,3,3,3], 43, 0, [81,43,39,94,86,63,60,48,70,86], 4), ([2,2,3,6], 48, 0, [82,48,70,86,63,60,48], 1), ([2,2,4,5], 51, 5, [83,51,85,61,50,83], 0), ([2,2,9], 52, 0, [84,52,88,69,83,51,85,61,50,83], 4), ([2,3,3,5], 61, 5, [85,61,50,83,51,85], 0), ([2,3,4,4], 63, 5, [86,63,60,48,70,86], 0), ([2,3,8], 64, 0, [87,64,65,70,86,63,60,48,70], 3), ([2,4,7], 69, 0, [88,69,83,51,85,61,50,83], 2), ([2,5,6], 70, 0, [89,70,86,63,60,48,70], 1), ([2,11], 67, 0, [90,67,71,87,64,65,70,86,63,60,48,70], 6), ([3,3,3,4], 79, 0, [91,79,34,65,70,86,63,60,48,70], 4), ([3,3,7], 82, 0, [92,82,48,70,86,63,60,48], 2), ([3,4,6], 85, 0, [93,85,61,50,83,51,85], 1), ([3,5,5], 86, 0, [94,86,63,60,48,70,86], 1), ([3,10], 84, 0, [95,84,52,88,69,83,51,85,61,50,83], 5), ([4,4,5], 91, 0, [96,91,79,34,65,70,86,63,60,48,70], 5), ([4,9], 87, 0, [97,87,64,65,70,86,63,60,48,70], 4), ([5,8], 88, 0, [98,88,69,83,51,85,61,50,83], 3), ([6,7], 89, 0, [99,89,70,86,63,60,48,70], 2), ([13], 76, 0, [100,76,90,67,71,87,64,65,70,86,63,60,48,70], 8)]
theorem tab_13 : tabOk 13 4 T_13 = true := by decide +kernel
noncomputable def T_14 : List Ent := [([1,1,1,1,1,1,1,1,1,1,1,1,1,1], 134, 0, [0,134,100,121,90,95,116,87,88,93,115,86,85,83,70,115], 10), ([1,1,1,1,1,1,1,1,1,1,1,1,2], 100, 0, [1,100,121,90,95,116,87,88,93,115,86,85,83,70,115], 9), ([1,1,1,1,1,1,1,1,1,1,1,3], 121, 0, [2,121,90,95,116,87,88,93,115,86,85,83,70,115], 8), ([1,1,1,1,1,1,1,1,1,1,2,2], 76, 0, [3,76,127,112,71,118,92,110,70,115,86,85,83,70], 8), ([1,1,1,1,1,1,1,1,1,1,4], 127, 0, [4,127,112,71,118,92,110,70,115,86,85,83,70], 7), ([1,1,1,1,1,1,1,1,1,2,3], 90, 0, [5,90,95,116,87,88,93,115,86,85,83,70,115], 7), ([1,1,1,1,1,1,1,1,1,5], 130, 0, [6,130,116,87,88,93,115,86,85,83,70,115], 6), ([1,1,1,1,1,1,1,1,2,2,2], 55, 0, [7,55,130,116,87,88,93,115,86,85,83,70,115], 7), ([1,1,1,1,1,1,1,1,2,4], 95, 0, [8,95,116,87,88,93,115,86,85,83,70,115], 6), ([1,1,1,1,1,1,1,1,3,3], 112, 0, [9,112,71,118,92,110,70,115,86,85,83,70], 6), ([1,1,1,1,1,1,1,1,6], 131, 0, [10,131,118,92,110,70,115,86,85,83,70], 5), ([1,1,1,1,1,1,1,2,2,3], 67, 0, [11,67,97,124,109,65,94,117,91,105,48,93,115,86,85,83,70,115], 12), ([1,1,1,1,1,1,1,2,5], 97, 0, [12,97,124,109,65,94,117,91,105,48,93,115,86,85,83,70,115], 11), ([1,1,1,1,1,1,1,3,4], 116, 0, [13,116,87,88,93,115,86,85,83,70,115], 5), ([1,1,1,1,1,1,1,7], 132, 0, [14,132,119,93,115,86,85,83,70,115], 4), ([1,1,1,1,1,1,2,2,2,2], 41, 0, [15,41,131,118,92,110,70,115,86,85,83,70], 6), ([1,1,1,1,1,1,2,2,4], 71, 0, [16,71,118,92,110,70,115,86,85,83,70], 5), ([1,1,1,1,1,1,2,3,3], 84, 0, [17,84,73,125,114,83,70,115,86,85,83], 5), ([1,1,1,1,1,1,2,6], 98, 0, [18,98,125,114,83,70,115,86,85,83], 4), ([1,1,1,1,1,1,3,5], 118, 0, [19,118,92,110,70,115,86,85,83,70], 4), ([1,1,1,1,1,1,4,4], 124, 0, [20,124,109,65,94,117,91,105,48,93,115,86,85,83,70,115], 10), ([1,1,1,1,1,1,8], 133, 0, [21,133,120,94,117,91,105,48,93,115,86,85,83,70,115], 9), ([1,1,1,1,1,2,2,2,3], 49, 0, [22,49,98,125,114,83,70,115,86,85,83], 5), ([1,1,1,1,1,2,2,5], 73, 0, [23,73,125,114,83,70,115,86,85,83], 4), ([1,1,1,1,1,2,3,4], 87, 0, [24,87,88,93,115,86,85,83,70,115], 4), ([1,1,1,1,1,2,7], 99, 0, [25,99,126,115,86,85,83,70,115], 3), ([1,1,1,1,1,3,3,3], 107, 0, [26,107,53,126,115,86,85,83,70,115], 4), ([1,1,1,1,1,3,6], 119, 0, [27,119,93,115,86,85,83,70,115], 3), ([1,1,1,1,1,4,5], 125, 0, [28,125,114,83,70,115,86,85,83], 3), ([1,1,1,1,1,9], 132, 0, [29,132,119,93,115,86,85,83,70,115], 4), ([1,1,1,1,2,2,2,2,2], 29, 0, [30,29,132,119,93,115,86,85,83,70,115], 5), ([1,1,1,1,2,2,2,4], 52, 0, [31,52,119,93,115,86,85,83,70,115], 4), ([1,1,1,1,2,2,3,3], 62, 0, [32,62,74,128,122,106,50,110,70,115,86,85,83,70], 8), ([1,1,1,1,2,2,6], 74, 0, [33,74,128,122,106,50,110,70,115,86,85,83,70], 7), ([1,1,1,1,2,3,5], 88, 0, [34,88,93,115,86,85,83,70,115], 3), ([1,1,1,1,2,4,4], 92, 0, [35,92,110,70,115,86,85,83,70], 3), ([1,1,1,1,2,8], 99, 0, [36,99,126,115,86,85,83,70,115], 3), ([1,1,1,1,3,3,4], 109, 0, [37,109,65,94,117,91,105,48,93,115,86,85,83,70,115], 9), ([1,1,1,1,3,7], 120, 0, [38,120,94,117,91,105,48,93,115,86,85,83,70,115], 8), ([1,1,1,1,4,6], 126, 0, [39,126,115,86,85,83,70,115], 2), ([1,1,1,1,5,5], 128, 0, [40,128,122,106,50,110,70,115,86,85,83,70], 6), ([1,1,1,1,10], 131, 0, [41,131,118,92,110,70,115,86,85,83,70], 5), ([1,1,1,2,2,2,2,3], 36, 0, [42,36,99,126,115,86,85,83,70,115], 4), ([1,1,1,2,2,2,5], 53, 0, [43,53,126,115,86,85,83,70,115], 3), ([1,1,1,2,2,3,4], 64, 0, [44,64,89,96,123,108,60,65,94,117,91,105,48,93,115,86,85,83,70,115], 14), ([1,1,1,2,2,7], 75, 0, [45,75,129,123,108,60,65,94,117,91,105,48,93,115,86,85,83,70,115], 13), ([1,1,1,2,3,3,3], 80, 0, [46,80,54,129,123,108,60,65,94,117,91,105,48,93,115,86,85,83,70,115], 14), ([1,1,1,2,3,6], 89, 0, [47,89,96,123,108,60,65,94,117,91,105,48,93,115,86,85,83,70,115], 13), ([1,1,1,2,4,5], 93, 0, [48,93,115,86,85,83,70,115], 2), ([1,1,1,2,9], 98, 0, [49,98,125,114,83,70,115,86,85,83], 4), ([1,1,1,3,3,5], 110, 0, [50,110,70,115,86,85,83,70], 2), ([1,1,1,3,4,4], 114, 0, [51,114,83,70,115,86,85,83], 2), ([1,1,1,3,8], 119, 0, [52,119,93,115,86,85,83,70,115], 3), ([1,1,1,4,7], 126, 0, [53,126,115,86,85,83,70,115], 2), ([1,1,1,5,6], 129, 0, [54,129,123,108,60,65,94,117,91,105,48,93,115,86,85,83,70,115], 12), ([1,1,1,11], 130, 0, [55,130,116,87,88,93,115,86,85,83,70,115], 6), ([1,1,2,2,2,2,2,2], 21, 0, [56,21,133,120,94,117,91,105,48,93,115,86,85,83,70,115], 10), ([1,1,2,2,2,2,4], 38, 0, [57,38,120,94,117,91,105,48,93,115,86,85,83,70,115], 9), ([1,1,2,2,2,3,3], 45, 0, [58,45,75,129,123,108,60,65,94,117,91,105,48,93,115,86,85,83,70,115], 14), ([1,1,2,2,2,6], 54, 0, [59,54,129,123,108,60,65,94,117,91,105,48,93,115,86,85,83,70,115], 13), ([1,1,2,2,3,5], 65, 0, [60,65,94,117,91,105,48,93,115,86,85,83,70,115], 8), ([1,1,2,2,4,4], 69, 0, [61,69,111,72,122,106,50,110,70,115,86,85,83,70], 8), ([1,1,2,2,8], 74, 0, [62,74,128,122,106,50,110,70,115,86,85,83,70], 7), ([1,1,2,3,3,4], 82, 0, [63,82,66,96,123,108,60,65,94,117,91,105,48,93,115,86,85,83,70,115], 14), ([1,1,2,3,7], 89, 0, [64,89,96,123,108,60,65,94,117,91,105,48,93,115,86,85,83,70,115], 13), ([1,1,2,4,6], 94, 0, [65,94,117,91,105,48,93,115,86,85,83,70,115], 7), ([1,1,2,5,5], 96, 0, [66,96,123,108,60,65,94,117,91,105,48,93,115,86,85,83,70,115], 12), ([1,1,2,10], 97, 0, [67,97,124,109,65,94,117,91,105,48,93,115,86,85,83,70,115], 11), ([1,1,3,3,3,3], 104, 0, [68,104,40,128,122,106,50,110,70,115,86,85,83,70], 8), ([1,1,3,3,6], 111, 0, [69,111,72,122,106,50,110,70,115,86,85,83,70], 7), ([1,1,3,4,5], 115, 5, [70,115,86,85,83,70], 0), ([1,1,3,9], 118, 0, [71,118,92,110,70,115,86,85,83,70], 4), ([1,1,4,4,4], 122, 0, [72,122,106,50,110,70,115,86,85,83,70], 5), ([1,1,4,8], 125, 0, [73,125,114,83,70,115,86,85,83], 3), ([1,1,5,7], 128, 0, [74,128,122,106,50,110,70,115,86,85,83,70], 6), ([1,1,6,6], 129, 0, [75,129,123,108,60,65,94,117,91,105,48,93,115,86,85,83,70,115], 12), ([1,1,12], 127, 0, [76,127,112,71,118,92,110,70,115,86,85,83,70], 7), ([1,2,2,2,2,2,3], 25, 0, [77,25,99,126,115,86,85,83,70,115], 4), ([1,2,2,2,2,5], 39, 0, [78,39,126,115,86,85,83,70,115], 3), ([1,2,2,2,3,4], 47, 0, [79,47,89,96,123,108,60,65,94,117,91,105,48,93,115,86,85,83,70,115], 14), ([1,2,2,2,7], 54, 0, [80,54,129,123,108,60,65,94,117,91,105,48,93,115,86,85,83,70,115], 13), ([1,2,2,3,3,3], 59, 0, [81,59,54,129,123,108,60,65,94,117,91,105,48,93,115,86,85,83,70,115], 14), ([1,2,2,3,6], 66, 0, [82,66,96,123,108,60,65,94,117,91,105,48,93,115,86,85,83,70,115], 13), ([1,2,2,4,5], 70, 5, [83,70,115,86,85,83], 0), ([1,2,2,9], 73, 0, [84,73,125,114,83,70,115,86,85,83], 4), ([1,2,3,3,5], 83, 5, [85,83,70,115,86,85], 0), ([1,2,3,4,4], 85, 5, [86,85,83,70,115,86], 0), ([1,2,3,8], 88, 0, [87,88,93,115,86,85,83,70,115], 3), ([1,2,4,7], 93, 0, [88,93,115,86,85,83,70,115], 2), ([1,2,5,6], 96, 0, [89,96,123,108,60,65,94,117,91,105,48,93,115,86,85,83,70,115], 12), ([1,2,11], 95, 0, [90,95,116,87,88,93,115,86,85,83,70,115], 6), ([1,3,3,3,4], 105, 0, [91,105,48,93,115,86,85,83,70,115], 4), ([1,3,3,7], 110, 0, [92,110,70,115,86,85,83,70], 2), ([1,3,4,6], 115, 0, [93,115,86,85,83,70,115], 1), ([1,3,5,5], 117, 0, [94,117,91,105,48,93,115,86,85,83,70,115], 6), ([1,3,10], 116, 0, [95,116,87,88,93,115,86,85,83,70,115], 5), ([1,4,4,5], 123, 0, [96,123,108,60,65,94,117,91,105,48,93,115,86,85,83,70,115], 11), ([1,4,9], 124, 0, [97,124,109,65,94,117,91,105,48,93,115,86,85,83,70,115], 10), ([1,5,8], 125, 0, [98,125,114,83,70,115,86,85,83], 3), ([1,6,7], 126, 0, [99,126,115,86,85,83,70,115], 2), ([1,13], 121, 0, [100,121,90,95,116,87,88,93,115,86,85,83,70,115], 8), ([2,2,2,2,2,2,2], 14, 0, [101,14,132,119,93,115,86,85,83,70,115], 5), ([2,2,2,2,2,4], 27, 0, [102,27,119,93,115,86,85,83,70,115], 4), ([2,2,2,2,3,3], 33, 0, [103,33,74,128,122,106,50,110,70,115,86,85,83,70], 8), ([2,2,2,2,6], 40, 0, [104,40,128,122,106,50,110,70,115,86,85,83,70], 7), ([2,2,2,3,5], 48, 0, [105,48,93,115,86,85,83,70,115], 3), ([2,2,2,4,4], 50, 0, [106,50,110,70,115,86,85,83,70], 3), ([2,2,2,8], 53, 0, [107,53,126,115,86,85,83,70,115], 3), ([2,2,3,3,4], 60, 0, [108,60,65,94,117,91,105,48,93,115,86,85,83,70,115], 9), ([2,2,3,7], 65, 0, [109,65,94,117,91,105,48,93,115,86,85,83,70,115], 8), ([2,2,4,6], 70, 0, [110,70,115,86,85,83,70], 1), ([2,2,5,5], 72, 0, [111,72,122,106,50,110,70,115,86,85,83,70], 6), ([2,2,10], 71, 0, [112,71,118,92,110,70,115,86,85,83,70], 5), ([2,3,3,3,3], 78, 0, [113,78,39,126,115,86,85,83,70,115], 4), ([2,3,3,6], 83, 0, [114,83,70,115,86,85,83], 1), ([2,3,4,5], 86, 5, [115,86,85,83,70,115], 0), ([2,3,9], 87, 0, [116,87,88,93,115,86,85,83,70,115], 4), ([2,4,4,4], 91, 0, [117,91,105,48,93,115,86,85,83,70,115], 5), ([2,4,8], 92, 0, [118,92,110,70,115,86,85,83,70], 3), ([2,5,7], 93, 0, [119,93,115,86,85,83,70,115], 2), ([2,6,6], 94, 0, [120,94,117,91,105,48,93,115,86,85,83,70,115], 7), ([2,12], 90, 0, [121,90,95,116,87,88,93,115,86,85,83,70,115], 7), ([3,3,3,5], 106, 0, [122,106,50,110,70,115,86,85,83,70], 4), ([3,3,4,4], 108, 0, [123,108,60,65,94,117,91,105,48,93,115,86,85,83,70,115], 10), ([3,3,8], 109, 0, [124,109,65,94,117,91,105,48,93,115,86,85,83,70,115], 9), ([3,4,7], 114, 0, [125,114,83,70,115,86,85,83], 2), ([3,5,6], 115, 0, [126,115,86,85,83,70,115], 1), ([3,11], 112, 0, [127,112,71,118,92,110,70,115,86,85,83,70], 6), ([4,4,6], 122, 0, [128,122,106,50,110,70,115,86,85,83,70], 5), ([4,5,5], 123, 0, [129,123,108,60,65,94,117,91,105,48,93,115,86,85,83,70,115], 11), ([4,10], 116, 0, [130,116,87,88,93,115,86,85,83,70,115], 5), ([5,9], 118, 0, [131,118,92,110,70,115,86,85,83,70], 4), ([6,8], 119, 0, [132,119,93,115,86,85,83,70,115], 3), ([7,7], 120, 0, [133,120,94,117,91,105,48,93,115,86,85,83,70,115], 8), ([14], 100, 0, [134,100,121,90,95,116,87,88,93,115,86,85,83,70,115], 9)]
theorem tab_14 : tabOk 14 4 T_14 = true := by decide +kernel
noncomputable def T_15 : List Ent := [([1,1,1,1,1,1,1,1,1,1,1,1,1,1,1], 175, 0, [0,175,134,158,121,127,153,116,118,125,151,115,115], 11), ([1,1,1,1,1,1,1,1,1,1,1,1,1,2], 134, 0, [1,134,158,121,127,153,116,118,125,151,115,115], 10), ([1,1,1,1,1,1,1,1,1,1,1,1,3], 158, 0, [2,158,121,127,153,116,118,125,151,115,115], 9), ([1,1,1,1,1,1,1,1,1,1,1,2,2], 100, 0, [3,100,167,148,95,155,124,146,93,152,117,122,141,70,151,115,115], 15), ([1,1,1,1,1,1,1,1,1,1,1,4], 167, 0, [4,167,148,95,155,124,146,93,152,117,122,141,70,151,115,115], 14), ([1,1,1,1,1,1,1,1,1,1,2,3], 121, 0, [5,121,127,153,116,118,125,151,115,115], 8), ([1,1,1,1,1,1,1,1,1,1,5], 170, 0, [6,170,153,116,118,125,151,115,115], 7), ([1,1,1,1,1,1,1,1,1,2,2,2], 76, 0, [7,76,170,153,116,118,125,151,115,115], 8), ([1,1,1,1,1,1,1,1,1,2,4], 127, 0, [8,127,153,116,118,125,151,115,115], 7), ([1,1,1,1,1,1,1,1,1,3,3], 148, 0, [9,148,95,155,124,146,93,152,117,122,141,70,151,115,115], 13), ([1,1,1,1,1,1,1,1,1,6], 172, 0, [10,172,155,124,146,93,152,117,122,141,70,151,115,115], 12), ([1,1,1,1,1,1,1,1,2,2,3], 90, 0, [11,90,130,162,145,88,126,154,123,143,83,93,152,117,122,141,70,151,115,115], 18), ([1,1,1,1,1,1,1,1,2,5], 130, 0, [12,130,162,145,88,126,154,123,143,83,93,152,117,122,141,70,151,115,115], 17), ([1,1,1,1,1,1,1,1,3,4], 153, 0, [13,153,116,118,125,151,115,115], 6), ([1,1,1,1,1,1,1,1,7], 173, 0, [14,173,156,125,151,115,115], 5), ([1,1,1,1,1,1,1,2,2,2,2], 55, 0, [15,55,172,155,124,146,93,152,117,122,141,70,151,115,115], 13), ([1,1,1,1,1,1,1,2,2,4], 95, 0, [16,95,155,124,146,93,152,117,122,141,70,151,115,115], 12), ([1,1,1,1,1,1,1,2,3,3], 112, 0, [17,112,97,164,150,110,94,154,123,143,83,93,152,117,122,141,70,151,115,115], 18), ([1,1,1,1,1,1,1,2,6], 131, 0, [18,131,164,150,110,94,154,123,143,83,93,152,117,122,141,70,151,115,115], 17), ([1,1,1,1,1,1,1,3,5], 155, 0, [19,155,124,146,93,152,117,122,141,70,151,115,115], 11), ([1,1,1,1,1,1,1,4,4], 162, 0, [20,162,145,88,126,154,123,143,83,93,152,117,122,141,70,151,115,115], 16), ([1,1,1,1,1,1,1,8], 174, 0, [21,174,157,126,154,123,143,83,93,152,117,122,141,70,151,115,115], 15), ([1,1,1,1,1,1,2,2,2,3], 67, 0, [22,67,131,164,150,110,94,154,123,143,83,93,152,117,122,141,70,151,115,115], 18), ([1,1,1,1,1,1,2,2,5], 97, 0, [23,97,164,150,110,94,154,123,143,83,93,152,117,122,141,70,151,115,115], 17), ([1,1,1,1,1,1,2,3,4], 116, 0, [24,116,118,125,151,115,115], 5), ([1,1,1,1,1,1,2,7], 132, 0, [25,132,165,151,115,115], 4), ([1,1,1,1,1,1,3,3,3], 142, 0, [26,142,73,165,151,115,115], 5), ([1,1,1,1,1,1,3,6], 156, 0, [27,156,125,151,115,115], 4), ([1,1,1,1,1,1,4,5], 164, 0, [28,164,150,110,94,154,123,143,83,93,152,117,122,141,70,151,115,115], 16), ([1,1,1,1,1,1,9], 174, 0, [29,174,157,126,154,123,143,83,93,152,117,122,141,70,151,115,115], 15), ([1,1,1,1,1,2,2,2,2,2], 41, 0, [30,41,173,156,125,151,115,115], 6), ([1,1,1,1,1,2,2,2,4], 71, 0, [31,71,156,125,151,115,115], 5), ([1,1,1,1,1,2,2,3,3], 84, 0, [32,84,98,168,160,141,70,151,115,115], 8), ([1,1,1,1,1,2,2,6], 98, 0, [33,98,168,160,141,70,151,115,115], 7), ([1,1,1,1,1,2,3,5], 118, 0, [34,118,125,151,115,115], 4), ([1,1,1,1,1,2,4,4], 124, 0, [35,124,146,93,152,117,122,141,70,151,115,115], 10), ([1,1,1,1,1,2,8], 133, 0, [36,133,166,152,117,122,141,70,151,115,115], 9), ([1,1,1,1,1,3,3,4], 145, 0, [37,145,88,126,154,123,143,83,93,152,117,122,141,70,151,115,115], 15), ([1,1,1,1,1,3,7], 157, 0, [38,157,126,154,123,143,83,93,152,117,122,141,70,151,115,115], 14), ([1,1,1,1,1,4,6], 165, 0, [39,165,151,115,115], 3), ([1,1,1,1,1,5,5], 168, 0, [40,168,160,141,70,151,115,115], 6), ([1,1,1,1,1,10], 173, 0, [41,173,156,125,151,115,115], 5), ([1,1,1,1,2,2,2,2,3], 49, 0, [42,49,132,165,151,115,115], 5), ([1,1,1,1,2,2,2,5], 73, 0, [43,73,165,151,115,115], 4), ([1,1,1,1,2,2,3,4], 87, 0, [44,87,119,128,161,144,85,110,94,154,123,143,83,93,152,117,122,141,70,151,115,115], 20), ([1,1,1,1,2,2,7], 99, 0, [45,99,169,161,144,85,110,94,154,123,143,83,93,152,117,122,141,70,151,115,115], 19), ([1,1,1,1,2,3,3,3], 107, 0, [46,107,74,169,161,144,85,110,94,154,123,143,83,93,152,117,122,141,70,151,115,115], 20), ([1,1,1,1,2,3,6], 119, 0, [47,119,128,161,144,85,110,94,154,123,143,83,93,152,117,122,141,70,151,115,115], 19), ([1,1,1,1,2,4,5], 125, 0, [48,125,151,115,115], 3), ([1,1,1,1,2,9], 132, 0, [49,132,165,151,115,115], 4), ([1,1,1,1,3,3,5], 146, 0, [50,146,93,152,117,122,141,70,151,115,115], 9), ([1,1,1,1,3,4,4], 150, 0, [51,150,110,94,154,123,143,83,93,152,117,122,141,70,151,115,115], 15), ([1,1,1,1,3,8], 157, 0, [52,157,126,154,123,143,83,93,152,117,122,141,70,151,115,115], 14), ([1,1,1,1,4,7], 166, 0, [53,166,152,117,122,141,70,151,115,115], 8), ([1,1,1,1,5,6], 169, 0, [54,169,161,144,85,110,94,154,123,143,83,93,152,117,122,141,70,151,115,115], 18), ([1,1,1,1,11], 172, 0, [55,172,155,124,146,93,152,117,122,141,70,151,115,115], 12), ([1,1,1,2,2,2,2,2,2], 29, 0, [56,29,174,157,126,154,123,143,83,93,152,117,122,141,70,151,115,115], 16), ([1,1,1,2,2,2,2,4], 52, 0, [57,52,157,126,154,123,143,83,93,152,117,122,141,70,151,115,115], 15), ([1,1,1,2,2,2,3,3], 62, 0, [58,62,99,169,161,144,85,110,94,154,123,143,83,93,152,117,122,141,70,151,115,115], 20), ([1,1,1,2,2,2,6], 74, 0, [59,74,169,161,144,85,110,94,154,123,143,83,93,152,117,122,141,70,151,115,115], 19), ([1,1,1,2,2,3,5], 88, 0, [60,88,126,154,123,143,83,93,152,117,122,141,70,151,115,115], 14), ([1,1,1,2,2,4,4], 92, 0, [61,92,147,96,161,144,85,110,94,154,123,143,83,93,152,117,122,141,70,151,115,115], 20), ([1,1,1,2,2,8], 99, 0, [62,99,169,161,144,85,110,94,154,123,143,83,93,152,117,122,141,70,151,115,115], 19), ([1,1,1,2,3,3,4], 109, 0, [63,109,89,129,163,149,105,65,126,154,123,143,83,93,152,117,122,141,70,151,115,115], 20), ([1,1,1,2,3,7], 120, 0, [64,120,129,163,149,105,65,126,154,123,143,83,93,152,117,122,141,70,151,115,115], 19), ([1,1,1,2,4,6], 126, 0, [65,126,154,123,143,83,93,152,117,122,141,70,151,115,115], 13), ([1,1,1,2,5,5], 128, 0, [66,128,161,144,85,110,94,154,123,143,83,93,152,117,122,141,70,151,115,115], 18), ([1,1,1,2,10], 131, 0, [67,131,164,150,110,94,154,123,143,83,93,152,117,122,141,70,151,115,115], 17), ([1,1,1,3,3,3,3], 138, 0, [68,138,54,169,161,144,85,110,94,154,123,143,83,93,152,117,122,141,70,151,115,115], 20), ([1,1,1,3,3,6], 147, 0, [69,147,96,161,144,85,110,94,154,123,143,83,93,152,117,122,141,70,151,115,115], 19), ([1,1,1,3,4,5], 151, 0, [70,151,115,115], 2), ([1,1,1,3,9], 156, 0, [71,156,125,151,115,115], 4), ([1,1,1,4,4,4], 160, 0, [72,160,141,70,151,115,115], 5), ([1,1,1,4,8], 165, 0, [73,165,151,115,115], 3), ([1,1,1,5,7], 169, 0, [74,169,161,144,85,110,94,154,123,143,83,93,152,117,122,141,70,151,115,115], 18), ([1,1,1,6,6], 171, 0, [75,171,163,149,105,65,126,154,123,143,83,93,152,117,122,141,70,151,115,115], 18), ([1,1,1,12], 170, 0, [76,170,153,116,118,125,151,115,115], 7), ([1,1,2,2,2,2,2,3], 36, 0, [77,36,133,166,152,117,122,141,70,151,115,115], 10), ([1,1,2,2,2,2,5], 53, 0, [78,53,166,152,117,122,141,70,151,115,115], 9), ([1,1,2,2,2,3,4], 64, 0, [79,64,120,129,163,149,105,65,126,154,123,143,83,93,152,117,122,141,70,151,115,115], 20), ([1,1,2,2,2,7], 75, 0, [80,75,171,163,149,105,65,126,154,123,143,83,93,152,117,122,141,70,151,115,115], 19), ([1,1,2,2,3,3,3], 80, 0, [81,80,75,171,163,149,105,65,126,154,123,143,83,93,152,117,122,141,70,151,115,115], 20), ([1,1,2,2,3,6], 89, 0, [82,89,129,163,149,105,65,126,154,123,143,83,93,152,117,122,141,70,151,115,115], 19), ([1,1,2,2,4,5], 93, 0, [83,93,152,117,122,141,70,151,115,115], 8), ([1,1,2,2,9], 98, 0, [84,98,168,160,141,70,151,115,115], 7), ([1,1,2,3,3,5], 110, 0, [85,110,94,154,123,143,83,93,152,117,122,141,70,151,115,115], 14), ([1,1,2,3,4,4], 114, 0, [86,114,111,96,161,144,85,110,94,154,123,143,83,93,152,117,122,141,70,151,115,115], 20), ([1,1,2,3,8], 119, 0, [87,119,128,161,144,85,110,94,154,123,143,83,93,152,117,122,141,70,151,115,115], 19), ([1,1,2,4,7], 126, 0, [88,126,154,123,143,83,93,152,117,122,141,70,151,115,115], 13), ([1,1,2,5,6], 129, 0, [89,129,163,149,105,65,126,154,123,143,83,93,152,117,122,141,70,151,115,115], 18), ([1,1,2,11], 130, 0, [90,130,162,145,88,126,154,123,143,83,93,152,117,122,141,70,151,115,115], 17), ([1,1,3,3,3,4], 140, 0, [91,140,66,128,161,144,85,110,94,154,123,143,83,93,152,117,122,141,70,151,115,115], 20), ([1,1,3,3,7], 147, 0, [92,147,96,161,144,85,110,94,154,123,143,83,93,152,117,122,141,70,151,115,115], 19), ([1,1,3,4,6], 152, 0, [93,152,117,122,141,70,151,115,115], 7), ([1,1,3,5,5], 154, 0, [94,154,123,143,83,93,152,117,122,141,70,151,115,115], 12), ([1,1,3,10], 155, 0, [95,155,124,146,93,152,117,122,141,70,151,115,115], 11), ([1,1,4,4,5], 161, 0, [96,161,144,85,110,94,154,123,143,83,93,152,117,122,141,70,151,115,115], 17), ([1,1,4,9], 164, 0, [97,164,150,110,94,154,123,143,83,93,152,117,122,141,70,151,115,115], 16), ([1,1,5,8], 168, 0, [98,168,160,141,70,151,115,115], 6), ([1,1,6,7], 169, 0, [99,169,161,144,85,110,94,154,123,143,83,93,152,117,122,141,70,151,115,115], 18), ([1,1,13], 167, 0, [100,167,148,95,155,124,146,93,152,117,122,141,70,151,115,115], 14), ([1,2,2,2,2,2,2,2], 21, 0, [101,21,174,157,126,154,123,143,83,93,152,117,122,141,70,151,115,115], 16), ([1,2,2,2,2,2,4], 38, 0, [102,38,157,126,154,123,143,83,93,152,117,122,141,70,151,115,115], 15), ([1,2,2,2,2,3,3], 45, 0, [103,45,99,169,161,144,85,110,94,154,123,143,83,93,152,117,122,141,70,151,115,115], 20), ([1,2,2,2,2,6], 54, 0, [104,54,169,161,144,85,110,94,154,123,143,83,93,152,117,122,141,70,151,115,115], 19), ([1,2,2,2,3,5], 65, 0, [105,65,126,154,123,143,83,93,152,117,122,141,70,151,115,115], 14), ([1,2,2,2,4,4], 69, 0, [106,69,147,96,161,144,85,110,94,154,123,143,83,93,152,117,122,141,70,151,115,115], 20), ([1,2,2,2,8], 74, 0, [107,74,169,161,144,85,110,94,154,123,143,83,93,152,117,122,141,70,151,115,115], 19), ([1,2,2,3,3,4], 82, 0, [108,82,89,129,163,149,105,65,126,154,123,143,83,93,152,117,122,141,70,151,115,115], 20), ([1,2,2,3,7], 89, 0, [109,89,129,163,149,105,65,126,154,123,143,83,93,152,117,122,141,70,151,115,115], 19), ([1,2,2,4,6], 94, 0, [110,94,154,123,143,83,93,152,117,122,141,70,151,115,115], 13), ([1,2,2,5,5], 96, 0, [111,96,161,144,85,110,94,154,123,143,83,93,152,117,122,141,70,151,115,115], 18), ([1,2,2,10], 97, 0, [112,97,164,150,110,94,154,123,143,83,93,152,117,122,141,70,151,115,115], 17), ([1,2,3,3,3,3], 104, 0, [113,104,54,169,161,144,85,110,94,154,123,143,83,93,152,117,122,141,70,151,115,115], 20), ([1,2,3,3,6], 111, 0, [114,111,96,161,144,85,110,94,154,123,143,83,93,152,117,122,141,70,151,115,115], 19), ([1,2,3,4,5], 115, 1, [115,115], 0), ([1,2,3,9], 118, 0, [116,118,125,151,115,115], 4), ([1,2,4,4,4], 122, 0, [117,122,141,70,151,115,115], 5), ([1,2,4,8], 125, 0, [118,125,151,115,115], 3), ([1,2,5,7], 128, 0, [119,128,161,144,85,110,94,154,123,143,83,93,152,117,122,141,70,151,115,115], 18), ([1,2,6,6], 129, 0, [120,129,163,149,105,65,126,154,123,143,83,93,152,117,122,141,70,151,115,115], 18), ([1,2,12], 127, 0, [121,127,153,116,118,125,151,115,115], 7), ([1,3,3,3,5], 141, 0, [122,141,70,151,115,115], 4), ([1,3,3,4,4], 143, 0, [123,143,83,93,152,117,122,141,70,151,115,115], 10), ([1,3,3,8], 146, 0, [124,146,93,152,117,122,141,70,151,115,115], 9), ([1,3,4,7], 151, 0, [125,151,115,115], 2), ([1,3,5,6], 154, 0, [126,154,123,143,83,93,152,117,122,141,70,151,115,115], 12), ([1,3,11], 153, 0, [127,153,116,118,125,151,115,115], 6), ([1,4,4,6], 161, 0, [128,161,144,85,110,94,154,123,143,83,93,152,117,122,141,70,151,115,115], 17), ([1,4,5,5], 163, 0, [129,163,149,105,65,126,154,123,143,83,93,152,117,122,141,70,151,115,115], 17), ([1,4,10], 162, 0, [130,162,145,88,126,154,123,143,83,93,152,117,122,141,70,151,115,115], 16), ([1,5,9], 164, 0, [131,164,150,110,94,154,123,143,83,93,152,117,122,141,70,151,115,115], 16), ([1,6,8], 165, 0, [132,165,151,115,115], 3), ([1,7,7], 166, 0, [133,166,152,117,122,141,70,151,115,115], 8), ([1,14], 158, 0, [134,158,121,127,153,116,118,125,151,115,115], 9), ([2,2,2,2,2,2,3], 25, 0, [135,25,132,165,151,115,115], 5), ([2,2,2,2,2,5], 39, 0, [136,39,165,151,115,115], 4), ([2,2,2,2,3,4], 47, 0, [137,47,119,128,161,144,85,110,94,154,123,143,83,93,152,117,122,141,70,151,115,115], 20), ([2,2,2,2,7], 54, 0, [138,54,169,161,144,85,110,94,154,123,143,83,93,152,117,122,141,70,151,115,115], 19), ([2,2,2,3,3,3], 59, 0, [139,59,74,169,161,144,85,110,94,154,123,143,83,93,152,117,122,141,70,151,115,115], 20), ([2,2,2,3,6], 66, 0, [140,66,128,161,144,85,110,94,154,123,143,83,93,152,117,122,141,70,151,115,115], 19), ([2,2,2,4,5], 70, 0, [141,70,151,115,115], 3), ([2,2,2,9], 73, 0, [142,73,165,151,115,115], 4), ([2,2,3,3,5], 83, 0, [143,83,93,152,117,122,141,70,151,115,115], 9), ([2,2,3,4,4], 85, 0, [144,85,110,94,154,123,143,83,93,152,117,122,141,70,151,115,115], 15), ([2,2,3,8], 88, 0, [145,88,126,154,123,143,83,93,152,117,122,141,70,151,115,115], 14), ([2,2,4,7], 93, 0, [146,93,152,117,122,141,70,151,115,115], 8), ([2,2,5,6], 96, 0, [147,96,161,144,85,110,94,154,123,143,83,93,152,117,122,141,70,151,115,115], 18), ([2,2,11], 95, 0, [148,95,155,124,146,93,152,117,122,141,70,151,115,115], 12), ([2,3,3,3,4], 105, 0, [149,105,65,126,154,123,143,83,93,152,117,122,141,70,151,115,115], 15), ([2,3,3,7], 110, 0, [150,110,94,154,123,143,83,93,152,117,122,141,70,151,115,115], 14), ([2,3,4,6], 115, 0, [151,115,115], 1), ([2,3,5,5], 117, 0, [152,117,122,141,70,151,115,115], 6), ([2,3,10], 116, 0, [153,116,118,125,151,115,115], 5), ([2,4,4,5], 123, 0, [154,123,143,83,93,152,117,122,141,70,151,115,115], 11), ([2,4,9], 124, 0, [155,124,146,93,152,117,122,141,70,151,115,115], 10), ([2,5,8], 125, 0, [156,125,151,115,115], 3), ([2,6,7], 126, 0, [157,126,154,123,143,83,93,152,117,122,141,70,151,115,115], 13), ([2,13], 121, 0, [158,121,127,153,116,118,125,151,115,115], 8), ([3,3,3,3,3], 136, 0, [159,136,39,165,151,115,115], 5), ([3,3,3,6], 141, 0, [160,141,70,151,115,115], 4), ([3,3,4,5], 144, 0, [161,144,85,110,94,154,123,143,83,93,152,117,122,141,70,151,115,115], 16), ([3,3,9], 145, 0, [162,145,88,126,154,123,143,83,93,152,117,122,141,70,151,115,115], 15), ([3,4,4,4], 149, 0, [163,149,105,65,126,154,123,143,83,93,152,117,122,141,70,151,115,115], 16), ([3,4,8], 150, 0, [164,150,110,94,154,123,143,83,93,152,117,122,141,70,151,115,115], 15), ([3,5,7], 151, 0, [165,151,115,115], 2), ([3,6,6], 152, 0, [166,152,117,122,141,70,151,115,115], 7), ([3,12], 148, 0, [167,148,95,155,124,146,93,152,117,122,141,70,151,115,115], 13), ([4,4,7], 160, 0, [168,160,141,70,151,115,115], 5), ([4,5,6], 161, 0, [169,161,144,85,110,94,154,123,143,83,93,152,117,122,141,70,151,115,115], 17), ([4,11], 153, 0, [170,153,116,118,125,151,115,115], 6), ([5,5,5], 163, 0, [171,163,149,105,65,126,154,123,143,83,93,152,117,122,141,70,151,115,115], 17), ([5,10], 155, 0, [172,155,124,146,93,152,117,122,141,70,151,115,115], 11), ([6,9], 156, 0, [173,156,125,151,115,115], 4), ([7,8], 157, 0, [174,157,126,154,123,143,83,93,152,117,122,141,70,151,115,115], 14), ([15], 134, 0, [175,134,158,121,127,153,116,118,125,151,115,115], 10)]
theorem tab_15 : tabOk 15 5 T_15 = true := by decide +kernel
theorem tab_all {n : Nat} (h1 : 1 ≤ n) (h2 : n ≤ 15) : ∃ T, tabOk n (kN n) T = true := by
  have h : n = 1 ∨ n = 2 ∨ n = 3 ∨ n = 4 ∨ n = 5 ∨ n = 6 ∨ n = 7 ∨ n = 8 ∨ n = 9 ∨ n = 10 ∨ n = 11 ∨ n = 12 ∨ n = 13 ∨ n = 14 ∨ n = 15 := by exact om_270 h1 h2
  rcases h with rfl | rfl | rfl | rfl | rfl | rfl | rfl | rfl | rfl | rfl | rfl | rfl | rfl | rfl | rfl
  · exact ⟨T_1, by rw [show kN 1 = 1 by decide +kernel]; exact tab_1⟩
  · exact ⟨T_2, by rw [show kN 2 = 1 by decide +kernel]; exact tab_2⟩
  · exact ⟨T_3, by rw [show kN 3 = 2 by decide +kernel]; exact tab_3⟩
  · exact ⟨T_4, by rw [show kN 4 = 2 by decide +kernel]; exact tab_4⟩
  · exact ⟨T_5, by rw [show kN 5 = 2 by decide +kernel]; exact tab_5⟩
  · exact ⟨T_6, by rw [show kN 6 = 3 by decide +kernel]; exact tab_6⟩
  · exact ⟨T_7, by rw [show kN 7 = 3 by decide +kernel]; exact tab_7⟩
  · exact ⟨T_8, by rw [show kN 8 = 3 by decide +kernel]; exact tab_8⟩
  · exact ⟨T_9, by rw [show kN 9 = 3 by decide +kernel]; exact tab_9⟩
  · exact ⟨T_10, by rw [show kN 10 = 4 by decide +kernel]; exact tab_10⟩
  · exact ⟨T_11, by rw [show kN 11 = 4 by decide +kernel]; exact tab_11⟩
  · exact ⟨T_12, by rw [show kN 12 = 4 by decide +kernel]; exact tab_12⟩
  · exact ⟨T_13, by rw [show kN 13 = 4 by decide +kernel]; exact tab_13⟩
  · exact ⟨T_14, by rw [show kN 14 = 4 by decide +kernel]; exact tab_14⟩
  · exact ⟨T_15, by rw [show kN 15 = 5 by decide +kernel]; exact tab_15⟩
end Lw
end
section
namespace Lw
open PySem PySem.Calls PyProof.Rows PySem.W
theorem pg_nodup : ∀ (f n m : Nat), (pg f n m).Nodup
  | 0, n, m => by unfold pg; split <;> simp
  | f + 1, n, m => by
    unfold pg
    split
    · simp
    · have key : ∀ l : List Nat, l.Nodup → (l.flatMap fun a => (pg f (n - a) a).map (a :: ·)).Nodup := by
        intro l
        induction l with
        | nil => intro _; exact List.nodup_nil
        | cons a l ih =>
          intro h
          rw [List.nodup_cons] at h
          rw [List.flatMap_cons]
          refine List.nodup_append.mpr ⟨?_, ih h.2, fun x hx y hy e => ?_⟩
          · rw [List.nodup_iff_pairwise_ne] at *
            refine List.pairwise_map.mpr ?_
            have := pg_nodup f (n - a) a
            exact this.imp fun {x y} hxy e => hxy (List.cons.inj e).2
          · subst e
            obtain ⟨r, _, rfl⟩ := List.mem_map.mp hx
            obtain ⟨b, hb, hr⟩ := List.mem_flatMap.mp hy
            obtain ⟨r', _, e'⟩ := List.mem_map.mp hr
            have := (List.cons.inj e').1
            exact h.1 (this ▸ hb)
      exact key _ List.nodup_range'
theorem nodes_at {n k len : Nat} {T : List Ent} : ∀ (l : List Ent) (a : Nat), nodesOk n k len T a l = true → ∀ j, j < l.length → nodeOk n k len T (entA l j) = true ∧ orbOk k len (a + j) T (entA l j).2.2.2.1 (entA l j).2.2.2.2 = true
  | [], a, h, j, hj => absurd hj (Nat.not_lt_zero _)
  | e :: r, a, h, j, hj => by
    unfold nodesOk at h
    rw [Bool.and_eq_true, Bool.and_eq_true] at h
    cases j with
    | zero => exact ⟨h.1.1, h.1.2⟩
    | succ j =>
      have := nodes_at r (a + 1) h.2 j (by simpa using hj)
      rw [show a + 1 + j = a + (j + 1) by exact om_271] at this
      exact this
theorem way_at {T : List Ent} {len : Nat} : ∀ (w : List Nat), wayOk T len w = true → ∀ m, m + 1 < w.length → w.getD m 0 < len ∧ (entA T (w.getD m 0)).2.1 = w.getD (m + 1) 0
  | [], _, m, hm => by simp at hm
  | [_], _, m, hm => by simp at hm
  | a :: b :: r, h, m, hm => by
    unfold wayOk at h
    rw [Bool.and_eq_true, Bool.and_eq_true] at h
    cases m with
    | zero => exact ⟨of_decide_eq_true h.1.1, eq_of_beq h.1.2⟩
    | succ m => exact way_at (b :: r) h.2 m (by simpa using hm)
theorem flag_at {T : List Ent} {f : Nat} : ∀ (w : List Nat) (a : Nat), flagOk T f a w = true → ∀ m, m + 1 < w.length → ((entA T (w.getD m 0)).2.2.1 != 0) = decide (f ≤ a + m)
  | [], _, _, m, hm => by simp at hm
  | [_], _, _, m, hm => by simp at hm
  | x :: b :: r, a, h, m, hm => by
    unfold flagOk at h
    rw [Bool.and_eq_true] at h
    cases m with
    | zero => exact eq_of_beq h.1
    | succ m =>
      have := flag_at (b :: r) (a + 1) h.2 m (by simpa using hm)
      rw [show a + 1 + m = a + (m + 1) by exact om_271] at this
      exact this
theorem getD_dropLast {l : List Nat} {m : Nat} (h : m + 1 < l.length) : l.getD m 0 ∈ l.dropLast := by
  have hm : m < l.dropLast.length := by rw [List.length_dropLast]; exact om_272 h
  have e : l.getD m 0 = l.dropLast[m] := by
    rw [List.getElem_dropLast, List.getD_eq_getElem?_getD, List.getElem?_eq_getElem (by exact om_273 h)]; rfl
  rw [e]
  exact List.getElem_mem hm
theorem apart_at : ∀ (w : List Nat), apartN w = true → ∀ i j, j < i → i + 1 < w.length → w.getD j 0 ≠ w.getD i 0
  | [], _, i, j, _, hi => by simp at hi
  | [_], _, i, j, _, hi => by simp at hi
  | a :: b :: r, h, i, j, hj, hi => by
    unfold apartN at h
    rw [Bool.and_eq_true] at h
    cases i with
    | zero => exact om_274 hj
    | succ i =>
      cases j with
      | zero =>
        intro e
        have h1 := h.1
        rw [Bool.not_eq_true'] at h1
        have : (b :: r).dropLast.contains a = true := by
          rw [List.contains_iff_mem]
          have e' : a = (b :: r).getD i 0 := e
          rw [e']
          exact getD_dropLast (by simpa using hi)
        rw [h1] at this; cases this
      | succ j => exact apart_at (b :: r) h.2 i j (by exact om_176 hj) (by simpa using hi)
theorem filter_ge (c : Nat → Bool) (f t : Nat) (h : ∀ m, m < t → c m = decide (f ≤ m)) : (List.range t).filter c = List.range' f (t - f) := by
  have key : ∀ n a, (∀ m, a ≤ m → m < a + n → c m = decide (f ≤ m)) → (List.range' a n).filter c = List.range' (max a f) (a + n - max a f) := by
    intro n
    induction n with
    | zero => intro a _; rw [show a + 0 - max a f = 0 by exact om_275]; rfl
    | succ n ih =>
      intro a ha
      rw [List.range'_succ, List.filter_cons, ih (a + 1) fun m h1 h2 => ha m (by exact om_234 h1) (by exact om_235 h2), ha a (Nat.le_refl _) (by exact om_236)]
      by_cases c1 : f ≤ a
      · rw [if_pos (decide_eq_true c1), show max (a + 1) f = a + 1 by exact om_276 c1, show max a f = a by exact om_277 c1, show a + (n + 1) - a = (a + 1 + n - (a + 1)) + 1 by exact om_278, List.range'_succ]
      · rw [if_neg (by rw [decide_eq_true_eq]; exact c1), show max (a + 1) f = f by exact om_279 c1, show max a f = f by exact om_280 c1, show a + 1 + n - f = a + (n + 1) - f by exact om_281]
  rw [List.range_eq_range', key t 0 fun m _ h2 => h m (by exact om_241 h2), Nat.zero_add, Nat.zero_max]
theorem itN_way {T : List Ent} {len : Nat} {w : List Nat} (hw : wayOk T len w = true) : ∀ (j m : Nat), m + j < w.length → itN T j (w.getD m 0) = w.getD (m + j) 0
  | 0, m, _ => rfl
  | j + 1, m, h => by
    unfold itN
    rw [(way_at w hw m (by exact om_282 h)).2, itN_way hw j (m + 1) (by exact om_283 h)]
    congr 1; exact om_284
theorem orb_all {n : Nat} (h1 : 1 ≤ n) (h2 : n ≤ 15) {p : List Nat} (hp : p ∈ pg n n 1) : ∃ o t f, OrbF n (kN n) p o t f (exOf (kN n) (oAt o f)) := by
  obtain ⟨T, hT⟩ := tab_all h1 h2
  generalize kN n = k at hT ⊢
  unfold tabOk at hT
  rw [Bool.and_eq_true] at hT
  obtain ⟨hP, hN⟩ := hT
  have hP := eq_of_beq hP
  have node := fun j hj => (nodes_at T 0 hN j hj).1
  have orb := fun j hj => (nodes_at T 0 hN j hj).2
  have fstA : ∀ j, j < T.length → (T.map fun e => e.1)[j]? = some (entA T j).1 := fun j hj => by
    unfold entA
    rw [List.getElem?_map, List.getD_eq_getElem?_getD, List.getElem?_eq_getElem hj]; rfl
  have inj : ∀ a b, a < T.length → b < T.length → (entA T a).1 = (entA T b).1 → a = b := fun a b ha hb e => by
    have nd : (T.map fun e => e.1).Nodup := by rw [hP]; exact pg_nodup _ _ _
    have ha' : a < (T.map fun e => e.1).length := by rw [List.length_map]; exact ha
    have hb' : b < (T.map fun e => e.1).length := by rw [List.length_map]; exact hb
    have e1 := fstA a ha
    have e2 := fstA b hb
    rw [List.getElem?_eq_getElem ha'] at e1
    rw [List.getElem?_eq_getElem hb'] at e2
    have e3 : (T.map fun e => e.1)[a] = (T.map fun e => e.1)[b] := by rw [Option.some.inj e1, Option.some.inj e2, e]
    have nd' := List.pairwise_iff_getElem.mp nd
    rcases Nat.lt_trichotomy a b with z | z | z
    · exact absurd e3 (nd' a b ha' hb' z)
    · exact z
    · exact absurd e3.symm (nd' b a hb' ha' z)
  obtain ⟨i, hi, ei⟩ : ∃ i, i < T.length ∧ (entA T i).1 = p := by
    rw [← hP] at hp
    obtain ⟨i, hi, e⟩ := List.getElem_of_mem hp
    have hi' : i < T.length := by rw [List.length_map] at hi; exact hi
    refine ⟨i, hi', ?_⟩
    have e1 := fstA i hi'
    rw [List.getElem?_eq_getElem hi, e] at e1
    exact (Option.some.inj e1).symm
  have ho := orb i hi
  generalize (entA T i).2.2.2.1 = w at ho
  generalize (entA T i).2.2.2.2 = f at ho
  unfold orbOk at ho
  simp only [Bool.and_eq_true, decide_eq_true_eq] at ho
  obtain ⟨⟨⟨⟨⟨⟨⟨⟨o1, o2⟩, o3⟩, o4⟩, o5⟩, o6⟩, o7⟩, o8⟩, o9⟩ := ho
  have o3 := eq_of_beq o3
  have o7 := eq_of_beq o7
  have o8 := eq_of_beq o8
  rw [Nat.zero_add] at o3
  obtain ⟨t, et⟩ : ∃ t, w.length = t + 1 := ⟨w.length - 1, by exact om_285 o1 o2⟩
  rw [et] at o1 o2 o7 o8
  have wlt : ∀ m, m ≤ t → w.getD m 0 < T.length := fun m hm => by
    rcases Nat.lt_or_ge m t with z | z
    · exact (way_at w o4 m (by exact om_286 et z)).1
    · rw [show m = t + 1 - 1 by exact om_287 o2 et hm z, o7]
      exact (way_at w o4 f (by exact om_288 o1 et hm z)).1
  have oA : ∀ m, m ≤ t → oAt (w.map fun a => (entA T a).1) m = (entA T (w.getD m 0)).1 := fun m hm => by
    have hm' : m < w.length := by exact om_289 et hm
    unfold oAt
    rw [List.getD_eq_getElem?_getD, List.getElem?_map, List.getElem?_eq_getElem hm', List.getD_eq_getElem?_getD, List.getElem?_eq_getElem hm']; rfl
  have nd : ∀ m, m ≤ t → nodeOk n k T.length T (entA T (w.getD m 0)) = true := fun m hm => node _ (wlt m hm)
  have nd' : ∀ m, m ≤ t → good n k (entA T (w.getD m 0)).1 = true ∧ stepP (entA T (w.getD m 0)).1 = (entA T (entA T (w.getD m 0)).2.1).1 ∧ inB k (entA T (w.getD m 0)).1 = ((entA T (w.getD m 0)).2.2.1 != 0) ∧ ((entA T (w.getD m 0)).2.2.1 = 0 ∨ cycOk k T (entA T (w.getD m 0)).1 (entA T (w.getD m 0)).2.1 (entA T (w.getD m 0)).2.2.1 (exOf k (entA T (w.getD m 0)).1) = true) := fun m hm => by
    have h := nd m hm
    unfold nodeOk at h
    simp only [Bool.and_eq_true, decide_eq_true_eq, Bool.or_eq_true] at h
    obtain ⟨⟨⟨⟨n1, n2⟩, n3⟩, n4⟩, n5⟩ := h
    exact ⟨n1, eq_of_beq n3, eq_of_beq n4, n5.imp eq_of_beq id⟩
  have hcyc := (nd' f (by exact om_290 o1 et)).2.2.2
  rw [o8] at hcyc
  have hcyc := hcyc.resolve_left (by omega)
  unfold cycOk at hcyc
  simp only [Bool.and_eq_true, decide_eq_true_eq] at hcyc
  obtain ⟨⟨⟨⟨⟨⟨⟨y1, y2⟩, y3⟩, y4⟩, y5⟩, y6⟩, y7⟩, y8⟩ := hcyc
  refine ⟨w.map fun a => (entA T a).1, t, f, by exact om_291 o1 et, by exact om_292 o2 et, ?_, fun m hm => ?_, fun a b ha hb e => ?_, ?_, fun m hm => ?_, ?_, ?_, ?_, ?_, fun d hd => ?_, ?_, fun e he => ?_, fun j hj => ?_⟩
  · rw [oA 0 (by exact om_293 o2 et), o3, ei]
  · rw [oA (m + 1) (by exact om_294 et hm), oA m (by exact om_295 et hm), (nd' m (by exact om_295 et hm)).2.1, (way_at w o4 m (by exact om_286 et hm)).2]
  · rw [oA a (by exact om_295 et ha), oA b (by exact om_296 et ha hb)] at e
    exact apart_at w o6 a b hb (by exact om_286 et ha) (inj _ _ (wlt b (by exact om_296 et ha hb)) (wlt a (by exact om_295 et ha)) e)
  · rw [oA t (by exact om_297), oA f (by exact om_290 o1 et)]
    rw [show w.getD t 0 = w.getD f 0 from o7]
  · rw [oA m hm]; exact good_of (nd' m hm).1
  · refine filter_ge _ f t fun m hm => ?_
    have h1 := (nd' m (by exact om_295 et hm)).2.2.1
    have h2 := flag_at w 0 o5 m (by exact om_286 et hm)
    rw [oA m (by exact om_295 et hm)]
    show inB k (entA T (w.getD m 0)).1 = _
    rw [h1, h2, Nat.zero_add]
  · rw [oA f (by exact om_290 o1 et)]
    have := eq_of_beq y1
    rw [this]; omega
  · rw [oA f (by exact om_290 o1 et)]; exact y2
  · rw [oA f (by exact om_290 o1 et)]
    by_cases c : (maxI (exOf k (entA T (w.getD f 0)).1) == 0) = true
    · rw [c, Bool.true_and]
      rw [c] at y3
      have y3' : t + 1 - 1 - f = 1 := by simpa using y3
      rw [o8] at o9
      have o9' : f ≤ k * k - k := by
        rw [y3'] at o9
        simpa using o9
      refine decide_eq_false ?_
      have hk : k ≤ k * k := Nat.le_mul_self k
      intro z
      have : ((k * k - k : Nat) : Int) = (k : Int) * k - k := by rw [Int.natCast_sub hk]; simp
      exact om_298 o9' z this
    · rw [Bool.eq_false_iff.mpr c, Bool.false_and]
  · rw [oA f (by exact om_290 o1 et)]
    have := List.all_eq_true.mp y4 d hd
    simpa using this
  · rw [oA f (by exact om_290 o1 et)]; exact eq_of_beq y5
  · rw [oA f (by exact om_290 o1 et)] at he
    have := List.all_eq_true.mp y6 e he
    simpa using this
  · rw [oA f (by exact om_290 o1 et), oA (f + j) (by exact om_299 o1 et hj)]
    cases j with
    | zero => exact eq_of_beq y7
    | succ j =>
      have := List.all_eq_true.mp y8 j (List.mem_range.mpr (by omega))
      have e1 := eq_of_beq this
      have e2 : itN T j (entA T (w.getD f 0)).2.1 = w.getD (f + (j + 1)) 0 := by
        rw [(way_at w o4 f (by exact om_300 o1 et)).2, itN_way o4 j (f + 1) (by exact om_301 o1 et hj), show f + 1 + j = f + (j + 1) by exact om_271]
      rw [e2] at e1
      exact e1
end Lw
end
section
namespace Lw
open PySem PySem.Calls PyProof.Rows PySem.W
structure LcF (k q num hv : Int) (t y : Tri) (sp : Int) : Prop where
  mkk : hsvSpec (idiv num (8 * (k + 1))) (shQ q) (fVal hv) = some t
  r : rgbSpec t.1 t.2.1 t.2.2 = some y
  y1 : y.2.1 = shQ q
  y2 : y.2.2 = fVal hv
  hvf : ftrunc (Float64.mul y.2.2 (Float64.ofInt 16)) = some hv
  i1 : Float64.isInf (idiv num (8 * (k + 1))) = false
  i2 : Float64.isInf (Float64.ofInt hv) = false
  s : ftrunc (Float64.add (Float64.mul y.1 (Float64.ofInt (8 * (k + 1)))) 4602678819172646912) = some sp
  sm : sp.fmod (8 * (k + 1)) = num.fmod (8 * (k + 1))
theorem lc_of {k q num hv : Int} (h : lc k q num hv = true) : ∃ t y sp, LcF k q num hv t y sp := by
  unfold lc at h
  split at h
  · cases h
  · rename_i t e1
    split at h
    · cases h
    · rename_i y e2
      simp only [Bool.and_eq_true] at h
      obtain ⟨⟨⟨⟨⟨h1, h2⟩, h3⟩, h4⟩, h5⟩, h6⟩ := h
      split at h6
      · rename_i sp e3
        exact ⟨t, y, sp, e1, e2, eq_of_beq h1, eq_of_beq h2, eq_of_beq h3, by rw [Bool.not_eq_true'] at h4; exact h4, by rw [Bool.not_eq_true'] at h5; exact h5, e3, eq_of_beq h6⟩
      · cases h6
noncomputable def eN (ex : List Int) (i : Nat) : Nat := (ex.getD i 0).toNat
noncomputable def plc (k i j : Nat) : Nat := (i + j) % (k + 1)
noncomputable def numN (k lean i : Nat) : Nat → Nat
  | 0 => 8 * i + lean
  | j + 1 => 8 * (plc k i j + 1) + lean
noncomputable def hvN (k : Nat) (ex : List Int) (i j : Nat) : Int := (k : Int) - (plc k i j : Int) + (eN ex i : Int) + 1
noncomputable def triO (k q : Nat) (num hv : Int) : Tri := (hsvSpec (idiv num (8 * ((k : Int) + 1))) (shQ q) (fVal hv)).getD (0, 0, 0)
theorem plc_lt (k i j : Nat) : plc k i j < k + 1 := Nat.mod_lt _ (Nat.succ_pos _)
theorem plc_succ (k i j : Nat) : plc k i (j + 1) = if plc k i j = k then 0 else plc k i j + 1 := by
  unfold plc
  have h : (i + j) % (k + 1) < k + 1 := Nat.mod_lt _ (Nat.succ_pos _)
  have e : (i + (j + 1)) % (k + 1) = ((i + j) % (k + 1) + 1) % (k + 1) := by
    rw [Nat.mod_add_mod]; rfl
  rw [e]
  split
  · rename_i c
    rw [c]; exact Nat.mod_self _
  · rename_i c
    exact Nat.mod_eq_of_lt (by exact om_315 h c)
section
variable {k q lean : Nat} {ex : List Int}
theorem lc_at (h1 : 1 ≤ k) (h2 : k ≤ 5) (h3 : q < 4) (h4 : lean < 8) (hex : ∀ i, i < k + 1 → eN ex i < 2) {i : Nat} (hi : i < k + 1) : ∀ j, lc (k : Int) (q : Int) ((numN k lean i j : Nat) : Int) (hvN k ex i j) = true := by
  have key : ∀ (p e : Nat), p < k + 1 → e < 2 → lc (k : Int) (q : Int) ((8 * p + lean : Nat) : Int) ((k : Int) - (p : Int) + (e : Int) + 1) = true ∧ (p = 0 → lc (k : Int) (q : Int) ((8 * (k + 1) + lean : Nat) : Int) ((k : Int) - (p : Int) + (e : Int) + 1) = true) := by
    intro p e hp he
    have a1 := List.all_eq_true.mp (lc_all h1 h2 h3) lean (List.mem_range.mpr h4)
    have a2 := List.all_eq_true.mp a1 p (List.mem_range.mpr hp)
    have a3 := List.all_eq_true.mp a2 e (List.mem_range.mpr he)
    rw [Bool.and_eq_true] at a3
    refine ⟨a3.1, fun z => ?_⟩
    have a4 := a3.2
    subst z
    simpa using a4
  intro j
  have he := hex i hi
  cases j with
  | zero =>
    have e : plc k i 0 = i := Nat.mod_eq_of_lt hi
    unfold hvN
    rw [e]
    exact (key i (eN ex i) hi he).1
  | succ j =>
    unfold hvN
    rw [plc_succ]
    by_cases c : plc k i j = k
    · rw [if_pos c]
      show lc _ _ ((8 * (plc k i j + 1) + lean : Nat) : Int) _ = true
      rw [c]
      exact (key 0 (eN ex i) (Nat.succ_pos _) he).2 rfl
    · rw [if_neg c]
      have := plc_lt k i j
      exact (key (plc k i j + 1) (eN ex i) (by exact om_316 c this) he).1
theorem num_mod (h4 : lean < 8) {i : Nat} (hi : i < k + 1) : ∀ j, numN k lean i j % (8 * (k + 1)) = 8 * plc k i j + lean := by
  have key : ∀ m, (8 * m + lean) % (8 * (k + 1)) = 8 * (m % (k + 1)) + lean := by
    intro m
    have h := Nat.div_add_mod m (k + 1)
    have h5 : m % (k + 1) < k + 1 := Nat.mod_lt _ (Nat.succ_pos _)
    have e : 8 * m + lean = (8 * (m % (k + 1)) + lean) + 8 * (k + 1) * (m / (k + 1)) := by
      have : 8 * m = 8 * ((k + 1) * (m / (k + 1)) + m % (k + 1)) := by rw [h]
      rw [Nat.mul_add, ← Nat.mul_assoc] at this
      exact om_317 this
    rw [e, Nat.add_mul_mod_self_left, Nat.mod_eq_of_lt (by exact om_318 h4 h5)]
  intro j
  cases j with
  | zero => show (8 * i + lean) % _ = _; rw [key]; rfl
  | succ j =>
    show (8 * (plc k i j + 1) + lean) % _ = _
    rw [key]
    have : (plc k i j + 1) % (k + 1) = plc k i (j + 1) := by unfold plc; rw [Nat.mod_add_mod]; rfl
    rw [this]
theorem vc_at {k' h : Nat} (h1 : k' < 5) (h2 : h < 8) : vc ((h : Int) + 1) (-1) = true ∧ vc ((h : Int) + 1) ((k' : Int) + 1) = true := by
  have a1 := List.all_eq_true.mp vc_all k' (List.mem_range.mpr h1)
  have a2 := List.all_eq_true.mp a1 h (List.mem_range.mpr h2)
  rw [Bool.and_eq_true] at a2
  exact a2
theorem step_at (h1 : 1 ≤ k) (h2 : k ≤ 5) (h3 : q < 4) (h4 : lean < 8) (hex : ∀ i, i < k + 1 → eN ex i < 2) {i : Nat} (hi : i < k + 1) (j : Nat) :
    ∃ y sp, LStep (k : Int) (lean : Int) (shQ q) (triO k q (numN k lean i j : Nat) (hvN k ex i j)) (hvN k ex i j) (triO k q (numN k lean i (j + 1) : Nat) (hvN k ex i (j + 1))) y sp := by
  obtain ⟨t, y, sp, F⟩ := lc_of (lc_at (ex := ex) h1 h2 h3 h4 hex hi j)
  obtain ⟨t', y', sp', F'⟩ := lc_of (lc_at (ex := ex) h1 h2 h3 h4 hex hi (j + 1))
  have et : triO k q (numN k lean i j : Nat) (hvN k ex i j) = t := by unfold triO; rw [F.mkk]; rfl
  have et' : triO k q (numN k lean i (j + 1) : Nat) (hvN k ex i (j + 1)) = t' := by unfold triO; rw [F'.mkk]; rfl
  rw [et, et']
  have hp := plc_lt k i j
  have he := hex i hi
  have hspot : sp.fmod (8 * ((k : Int) + 1)) = ((8 * plc k i j + lean : Nat) : Int) := by
    rw [F.sm, Int.fmod_eq_emod_of_nonneg _ (by exact om_319 h1 h2), ← num_mod h4 hi j]
    have : (8 * ((k : Int) + 1)) = ((8 * (k + 1) : Nat) : Int) := by exact om_320
    rw [this, ← Int.natCast_emod]
  have hnum : ((8 * plc k i j + lean : Nat) : Int) + 8 = ((numN k lean i (j + 1) : Nat) : Int) := by
    show _ = ((8 * (plc k i j + 1) + lean : Nat) : Int)
    exact om_321
  have hdiv : ((8 * plc k i j + lean : Nat) : Int).fdiv 8 = (plc k i j : Int) := by
    rw [Int.fdiv_eq_ediv_of_nonneg _ (by decide)]; exact om_322 h4 hspot hnum
  have hmod : ((8 * plc k i j + lean : Nat) : Int).fmod 8 = (lean : Int) := by
    rw [Int.fmod_eq_emod_of_nonneg _ (by decide)]; exact om_323 h4 hspot hnum hdiv
  have hst : stepOf (k : Int) ((8 * plc k i j + lean : Nat) : Int) = if plc k i j = k then (k : Int) else -1 := by
    unfold stepOf
    rw [hdiv]
    by_cases c : plc k i j = k
    · rw [if_pos (by rw [c]; simp), if_pos c]
    · rw [if_neg (by rw [beq_iff_eq]; exact om_324 hdiv c), if_neg c]
  have hvs : hvN k ex i (j + 1) = hvN k ex i j + stepOf (k : Int) ((8 * plc k i j + lean : Nat) : Int) := by
    rw [hst]
    unfold hvN
    rw [plc_succ]
    by_cases c : plc k i j = k
    · rw [if_pos c, if_pos c, c]; exact om_325
    · rw [if_neg c, if_neg c]; exact om_326
  have hvc : vc (hvN k ex i j) (stepOf (k : Int) ((8 * plc k i j + lean : Nat) : Int)) = true := by
    have hh : hvN k ex i j = ((k - plc k i j + eN ex i : Nat) : Int) + 1 := by unfold hvN; exact om_327 hp hdiv
    have hv := vc_at (k' := k - 1) (h := k - plc k i j + eN ex i) (by exact om_328 h1 h2) (by exact om_329 h1 h2 hp he hdiv hh)
    rw [hst, hh]
    by_cases c : plc k i j = k
    · rw [if_pos c]
      have e : (((k - 1 : Nat) : Int) + 1) = (k : Int) := by exact om_330 h1 h2 hdiv c
      have := hv.2
      rwa [e] at this
    · rw [if_neg c]; exact hv.1
  unfold vc at hvc
  rw [Bool.and_eq_true] at hvc
  refine ⟨y, sp, F.r, F.s, ?_, ?_, F.hvf, ?_, ?_, ?_⟩
  · rw [F.y1]
    have := List.all_eq_true.mp sh_same q (List.mem_range.mpr h3)
    rw [eq_of_beq this]; decide
  · rw [hspot, hmod]; simp
  · rw [hspot, hnum]; exact F'.i1
  · rw [hspot]
    have := hvc.2
    rw [Bool.not_eq_true'] at this; exact this
  · rw [hspot, hnum, F.y1, F.y2]
    have e : Float64.add (fVal (hvN k ex i j)) (Float64.div (Float64.ofInt (stepOf (k : Int) ((8 * plc k i j + lean : Nat) : Int))) 4625196817309499392) = fVal (hvN k ex i (j + 1)) := by
      rw [hvs]; exact eq_of_beq hvc.1
    rw [e]
    exact F'.mkk
end
theorem steps_map {K L : Int} {sh : UInt64} {a b : Nat → Tri} {hv : Nat → Int} : ∀ l : List Nat, (∀ i ∈ l, ∃ y sp, LStep K L sh (a i) (hv i) (b i) y sp) → LSteps K L sh (l.map a) (l.map fun i => hv i - 1) (l.map b)
  | [], _ => .nil
  | i :: l, h => by
    obtain ⟨y, sp, hS⟩ := h i (.head _)
    exact .cons hS (steps_map l fun x hx => h x (.tail _ hx))
theorem tall_toI (l : List Nat) : (tallOnly (toI l)).map Int.toNat = l.filter fun h => decide (0 < h) := by
  unfold tallOnly toI
  induction l with
  | nil => rfl
  | cons a l ih =>
    rw [List.map_cons, List.filter_cons, List.filter_cons]
    by_cases c : 0 < a
    · rw [if_pos (decide_eq_true (by exact om_331 c)), if_pos (decide_eq_true c), List.map_cons, ih, Int.toNat_natCast]
    · rw [if_neg (by rw [decide_eq_true_eq]; exact om_332 c), if_neg (by rw [decide_eq_true_eq]; exact c), ih]
section
variable {n k : Nat} {p : List Nat} {o : List (List Nat)} {t f : Nat} {ex : List Int} (bits : Int) {ps0 : List Int} {q lean : Nat}
noncomputable def tsW (k q lean : Nat) (ex : List Int) (j : Nat) : List Tri := (List.range (k + 1)).map fun i => triO k q (numN k lean i j : Nat) (hvN k ex i j)
theorem eN_lt (F : OrbF n k p o t f ex) : ∀ i, i < k + 1 → eN ex i < 2 := fun i hi => by
  unfold eN
  have hi' : i < ex.length := by rw [F.exl]; exact hi
  rw [List.getD_eq_getElem?_getD, List.getElem?_eq_getElem hi', Option.getD_some]
  rcases F.ex01 _ (List.getElem_mem hi') with e | e <;> rw [e] <;> decide
theorem hs_eq (k : Nat) (ex : List Int) (j : Nat) : ((List.range (k + 1)).map fun i => hvN k ex i j - 1) = toI (hsN k ex j) := by
  unfold toI hsN
  rw [List.map_map]
  refine List.map_congr_left fun i hi => ?_
  have := plc_lt k i j
  show (k : Int) - (plc k i j : Int) + (eN ex i : Int) + 1 - 1 = ((k - (i + j) % (k + 1) + (ex.getD i 0).toNat : Nat) : Int)
  show (k : Int) - (plc k i j : Int) + (eN ex i : Int) + 1 - 1 = ((k - plc k i j + eN ex i : Nat) : Int)
  exact om_333 this
theorem wheel_of (F : OrbF n k p o t f ex) (h0 : (ps0.map Int.toNat).Perm p) (h1 : 1 ≤ k) (h2 : k ≤ 5) (h3 : q < 4) (h4 : lean < 8) : ∀ d j, f + j + d = t + 1 → Wheel (k : Int) (lean : Int) bits (shQ q) (gsA bits ps0 o (t + 1)) t f (f + j) (tsW k q lean ex j)
  | 0, j, e => by rw [show f + j = t + 1 by exact om_334 e]; exact .stop
  | d + 1, j, e => by
    have hft := F.ft
    have hj : f + j ≤ t := by exact om_335 e
    have hg := F.good (f + j) hj
    have hperm : ((tallOnly (toI (hsN k ex j))).map Int.toNat).Perm (oAt o (f + j)) := by
      rw [tall_toI, ← F.wheel j (by exact om_336 e hft)]
      exact (sortN_perm _).symm
    have hL := lead_of bits hperm
    have hlen : (tallOnly (toI (hsN k ex j))).length = (oAt o (f + j)).length := by have := hperm.length_eq; rwa [List.length_map] at this
    have h15 := hg.l15
    refine .next (hs := toI (hsN k ex j)) (ts' := tsW k q lean ex (j + 1)) hj ?_ ?_ (by exact om_337 hlen h15) (fun a ha => ?_) ?_ ?_ (wheel_of F h0 h1 h2 h3 h4 d (j + 1) (by exact om_338 e))
    · rw [← hs_eq]
      exact steps_map _ fun i hi => step_at h1 h2 h3 h4 (eN_lt F) (List.mem_range.mp hi) j
    · unfold tsW; rw [List.length_map, List.length_range]; exact om_339 h1 h2
    · have ha0 : a > 0 := of_decide_eq_true (List.mem_filter.mp ha).2
      have := hg.small _ (hperm.subset (List.mem_map_of_mem (f := Int.toNat) ha))
      exact om_340 ha0 this
    · have := sum225 hg
      rw [hL.len, sumS_eq]; exact om_341 hlen h15 this
    · have hgs : ∀ m, m < t → eqG (gAt (gsA bits ps0 o (t + 1)) m) (leadP bits (tallOnly (toI (hsN k ex j))) 0 "") = decide (oAt o m = oAt o (f + j)) := fun m hm => by
        rw [gsA_at bits ps0 o (by exact om_342 hm)]
        exact eq_lead (ldA_F bits F h0 (by exact om_263 hm)) hL (F.good m (by exact om_263 hm)) hg
      by_cases c : f + j < t
      · rw [if_pos c]
        refine filter_single c fun m hm => ?_
        rw [hgs m hm]
        by_cases em : m = f + j
        · subst em; simp
        · rw [decide_eq_false em]
          refine decide_eq_false fun z => ?_
          rcases Nat.lt_or_gt_of_ne em with y | y
          · exact F.apart _ _ c y z
          · exact F.apart _ _ hm y z.symm
      · have et : f + j = t := by exact om_343 e hj c
        rw [if_neg c]
        refine filter_single hft fun m hm => ?_
        rw [hgs m hm, et, F.back]
        by_cases em : m = f
        · subst em; simp
        · rw [decide_eq_false em]
          refine decide_eq_false fun z => ?_
          rcases Nat.lt_or_gt_of_ne em with y | y
          · exact F.apart _ _ hft y z
          · exact F.apart _ _ hm y z.symm
end
end Lw
end
section
namespace Lw
open PySem PySem.Calls PyProof.Rows PySem.W
theorem kOf_in {n : Nat} (h1 : 1 ≤ n) (h2 : n ≤ 15) : 1 ≤ kOf (n : Int) ∧ kOf (n : Int) ≤ 5 := by
  have h : ∀ m : Nat, m < 15 → (decide (1 ≤ kOf ((m + 1 : Nat) : Int)) && decide (kOf ((m + 1 : Nat) : Int) ≤ 5)) = true := by
    have := (by decide +kernel : ((List.range 15).all fun m => decide (1 ≤ kOf ((m + 1 : Nat) : Int)) && decide (kOf ((m + 1 : Nat) : Int) ≤ 5)) = true)
    exact fun m hm => List.all_eq_true.mp this m (List.mem_range.mpr hm)
  have := h (n - 1) (by exact om_344 h1 h2)
  rw [Bool.and_eq_true, show n - 1 + 1 = n by exact om_345 h1 h2] at this
  exact ⟨of_decide_eq_true this.1, of_decide_eq_true this.2⟩
theorem z_ne {p : List Nat} (h : Small p) : letters (toI p) ≠ lowered ("z" : Str) := fun e => by
  have hz : ((lowered ("z" : Str))).cps.toList = [122] := by decide +kernel
  have := congrArg (fun s : Str => s.cps.toList) e
  simp only [letters_list, hz] at this
  have hm : 122 ∈ p.map (96 + ·) := by rw [this]; exact .head _
  obtain ⟨k, hk, e2⟩ := List.mem_map.mp hm
  have := h k hk
  have e2 : 96 + k = 122 := e2
  exact om_346 ‹_› this
theorem trAt_map (a : Nat → Tri) {n i : Nat} (h : i < n) : trAt ((List.range n).map a) i = a i := by
  unfold trAt
  rw [List.getD_eq_getElem?_getD, List.getElem?_map, List.getElem?_range h]; rfl
theorem lights_of {n k : Nat} {p : List Nat} {o : List (List Nat)} {t f : Nat} {ex : List Int} {q lean : Nat} (F : OrbF n k p o t f ex) (h1 : 1 ≤ k) (h2 : k ≤ 5) (hq4 : q < 4) (hl8 : lean < 8) : LightsOk (k : Int) (lean : Int) (shQ (q : Int)) ex (tsW k q lean ex 0) := by
  have hts : (tsW k q lean ex 0).length = k + 1 := by unfold tsW; rw [List.length_map, List.length_range]
  have he : ∀ i, i < k + 1 → ((eN ex i : Nat) : Int) = ex.getD i 0 := fun i hi => by
    unfold eN
    have hi' : i < ex.length := by rw [F.exl]; exact hi
    rw [List.getD_eq_getElem?_getD, List.getElem?_eq_getElem hi', Option.getD_some]
    rcases F.ex01 _ (List.getElem_mem hi') with e | e <;> rw [e] <;> rfl
  have hp0 : ∀ i, i < k + 1 → plc k i 0 = i := fun i hi => Nat.mod_eq_of_lt hi
  have hh : ∀ i, i < k + 1 → hvN k ex i 0 = (k : Int) - (i : Int) + ex.getD i 0 + 1 := fun i hi => by
    unfold hvN; rw [hp0 i hi, he i hi]
  have hnu : ∀ i : Nat, ((numN k lean i 0 : Nat) : Int) = 8 * (i : Int) + (lean : Int) := fun i => by
    have : numN k lean i 0 = 8 * i + lean := rfl
    rw [this]; exact om_347
  have hlc := fun i hi => lc_of (lc_at (ex := ex) h1 h2 hq4 hl8 (eN_lt F) (i := i) hi 0)
  refine ⟨by rw [hts]; exact om_348, by rw [F.exl]; exact om_348, fun i hi => ?_, fun i hi => ?_, fun i hi => ?_⟩
  · rw [hts] at hi
    obtain ⟨t', y, sp, L⟩ := hlc i hi
    have h := L.i1
    rw [hnu] at h
    exact h
  · rw [hts] at hi
    obtain ⟨t', y, sp, L⟩ := hlc i hi
    have h := L.i2
    rw [hh i hi] at h
    exact h
  · rw [hts] at hi
    obtain ⟨t', y, sp, L⟩ := hlc i hi
    have e0 : triO k q (numN k lean i 0 : Nat) (hvN k ex i 0) = t' := by
      unfold triO
      rw [L.mkk]; rfl
    have e1 : trAt (tsW k q lean ex 0) i = t' := by
      rw [← e0]
      exact trAt_map _ hi
    have h := L.mkk
    rw [hnu, hh i hi] at h
    unfold fVal at h
    rw [e1]
    exact h
theorem plain01 (cards drawn cutb : Int) (hc0 : 1 ≤ cards) (hc1 : cards ≤ 15) (hd0 : 0 ≤ drawn) (hd1 : drawn < 1048576) (hb0 : 0 ≤ cutb) (hb1 : cutb < 32768) : ∃ gs tl u first nm k tolds ts0, LF1 cards drawn cutb gs tl u first nm k tolds ts0 := by
  obtain ⟨n, rfl⟩ : ∃ n : Nat, cards = (n : Int) := ⟨cards.toNat, by exact om_349 hc0 hc1⟩
  have hn1 : 1 ≤ n := by exact om_350 hc0 hc1
  have hn2 : n ≤ 15 := by exact om_351 hc0 hc1
  obtain ⟨o, t, f, F⟩ := orb_all hn1 hn2 (first_mem cutb hn1)
  obtain ⟨hk1, hk5⟩ := kOf_in hn1 hn2
  have hkk : ((kN n : Nat) : Int) = kOf (n : Int) := by unfold kN; exact om_352 hk1 hk5
  generalize kN n = k at F hkk
  have h1 : 1 ≤ k := by exact om_353 hk1 hk5 hkk
  have h2 : k ≤ 5 := by exact om_354 hk1 hk5 hkk
  have h0 := (sortN_perm ((cutL cutb ((n : Int) - 1).toNat 1 [] 1).map Int.toNat)).symm
  have hnn : ∀ a ∈ cutL cutb ((n : Int) - 1).toNat 1 [] 1, 0 ≤ a := fun a ha => by
    have := cut_pos cutb ((n : Int) - 1).toNat 1 [] 1 (fun a ha => nomatch ha) (by decide) a ha
    exact om_27 this
  generalize hps : cutL cutb ((n : Int) - 1).toNat 1 [] 1 = ps0 at F h0 hnn
  generalize sortN (ps0.map Int.toNat) = p at F h0
  obtain ⟨q, hq⟩ : ∃ q : Nat, drawn.fmod 4 = (q : Int) := ⟨(drawn.fmod 4).toNat, by have := (fmod_in (a := drawn) (b := 4) (by decide)).1; exact om_355 this⟩
  have hq4 : q < 4 := by have := (fmod_in (a := drawn) (b := 4) (by decide)).2; exact om_356 hq this
  obtain ⟨lean, hl⟩ : ∃ lean : Nat, (drawn.fdiv 4).fmod 8 = (lean : Int) := ⟨((drawn.fdiv 4).fmod 8).toNat, by have := (fmod_in (a := drawn.fdiv 4) (b := 8) (by decide)).1; exact om_355 this⟩
  have hl8 : lean < 8 := by have := (fmod_in (a := drawn.fdiv 4) (b := 8) (by decide)).2; exact om_357 hl this
  have hsh : shareU drawn = shQ (q : Int) := by unfold shareU shQ; rw [hq]
  generalize hbits : drawn.fdiv 32 = bits
  have hft := F.ft
  have ht := F.t170
  have hgf := F.good f (by exact om_263 hft)
  have hnmf := name_ok f hgf.small (by have := hgf.l15; exact om_260 this)
  have hbf := bfA_F bits F h0 f (by exact om_263 hft)
  have htl : (tbA bits ps0 o t).length = t := by unfold tbA; rw [List.length_map, List.length_range]
  have hta : ∀ m, m < t → tAt ((List.range t).map fun m => toI (oAt o m)) m = toI (oAt o m) := fun m hm => by
    unfold tAt
    rw [List.getD_eq_getElem?_getD, List.getElem?_map, List.getElem?_range hm]; rfl
  have hga : ∀ m, m ≤ t → gAt (gsA bits ps0 o (t + 1)) m = ldA bits ps0 o m := fun m hm => gsA_at bits ps0 o (by exact om_358 htl hm)
  have hkt : ((k : Int) + 1).toNat = k + 1 := by exact om_359 hk1 hk5 hkk
  have hex : moreI (tAt ((List.range t).map fun m => toI (oAt o m)) f) (k : Int) = exOf k (oAt o f) := by rw [hta f hft]; rfl
  refine ⟨gsA bits ps0 o (t + 1), tbA bits ps0 o t, bfA bits ps0 o f, f, nameOf f (toI (oAt o f)), (k : Int), (List.range t).map (fun m => toI (oAt o m)), tsW k q lean (exOf k (oAt o f)) 0, ?_⟩
  refine
    { play := ?_, t1 := by rw [htl]; exact om_360 ht htl, t2 := by rw [htl]; exact hft, gl := by rw [htl]; unfold gsA; rw [List.length_map, List.length_range], lu := by have := hbf.2.2; omega, wb := hbf.1, q1 := ?_, nmI := ?_, ok1 := fun x hx => ?_, l1 := fun x hx => ?_,
      a1 := hnmf.2.1, z1 := hnmf.2.2.2.1, a2 := hnmf.2.2.2.2.1, a3 := ?_, q2 := ?_, hk := hkk.symm, k1 := by exact om_361 hk1 hk5 hkk hkt, k5 := by exact om_362 hk1 hk5 hkk hkt, q3 := fun m hm => ?_, q4 := ?_, q5 := ?_, q5n := ?_, q6 := ?_, q7 := ?_, lt := ?_, wh := ?_, a4 := ?_ }
  · rw [hbits, hps]
    exact play_of bits F h0 hnn t 0 (by exact om_363)
  · rw [htl]
    refine filter_single hft fun m hm => ?_
    rw [hga m (by exact om_364 htl hm), hga t (Nat.le_refl _), eq_lead (ldA_F bits F h0 (by exact om_364 htl hm)) (ldA_F bits F h0 (Nat.le_refl _)) (F.good m (by exact om_364 htl hm)) (F.good t (Nat.le_refl _)), F.back]
    by_cases em : m = f
    · subst em; simp
    · rw [decide_eq_false em]
      refine decide_eq_false fun z => ?_
      rcases Nat.lt_or_gt_of_ne em with y | y
      · exact F.apart _ _ hft y z
      · exact F.apart _ _ hm y z.symm
  · unfold tbA
    rw [List.getElem?_map, List.getElem?_range hft]; rfl
  · obtain ⟨i, hi, -, rfl⟩ := tb_low bits F (m := t) (by exact om_365) x hx
    have hgi := F.good i (by exact om_364 htl hi)
    refine ⟨(name_ok i hgi.small (by have := hgi.l15; exact om_260 this)).2.2.1, ?_⟩
    show PyData.strOk (bfA bits ps0 o i) = true
    unfold PyData.strOk
    rw [Array.all_eq_true_iff_forall_mem]
    intro c hc
    have := (bfA_F bits F h0 i (by exact om_364 htl hi)).2.1 c (Array.mem_toList_iff.mpr hc)
    exact decide_eq_true (by exact om_366 this)
  · obtain ⟨i, hi, e, -⟩ := tb_low bits F (m := t) (by exact om_365) x hx
    have hgi := F.good i (by exact om_364 htl hi)
    rw [e]
    exact (letters_ok hgi.small (by have := hgi.l15; exact om_260 this)).1
  · exact get_back bits F (low_up_name f hgf.small) _
  · rw [htl]
    refine List.filter_eq_nil_iff.mpr fun m hm => ?_
    have hm := List.mem_range.mp hm
    rw [hga m (by exact om_364 htl hm)]
    have hw := ld_ws bits F h0 (m := m) (by exact om_364 htl hm)
    have hgm := F.good m (by exact om_364 htl hm)
    have e1 : eqG (ldA bits ps0 o m) (bfA bits ps0 o f) = false := by
      unfold eqG
      rw [hw.2.2.1, hbf.1]
      by_cases z : f = 0
      · subst z
        have e2 : wsC (bfA bits ps0 o 0) = [] := by
          show wsC "" = []
          decide +kernel
        rw [e2, hw.1]
        have : (cntF (oAt o m) [] == []) = false := beq_eq_false_iff_ne.mpr fun z => by
          have hp := hgm.piles
          rw [z] at hp
          have hl1 := hgm.l1
          have := congrArg List.length hp
          rw [List.length_map] at this
          unfold toI at this
          rw [List.length_map] at this
          have e0 : (pilesD []).length = 0 := rfl
          exact om_367 hl1 this e0
        rw [this]; rfl
      · have : ((0 : Int) == (f : Int)) = false := beq_eq_false_iff_ne.mpr (by omega)
        rw [this, Bool.and_false]
    rw [e1, Bool.false_or, hw.2.2.2, hw.2.1, sumS_eq, hgm.sum]
    have : ((n + (oAt o m).length : Nat) : Int) - ((oAt o m).length : Int) = (n : Int) := by exact om_368
    rw [this]; simp
  · rw [htl] at hm
    rw [hga m (by exact om_364 htl hm), hta m hm]
    have hw := ld_ws bits F h0 (m := m) (by exact om_364 htl hm)
    have hgm := F.good m (by exact om_364 htl hm)
    refine ⟨by rw [hw.1]; exact hgm.c1, by rw [hw.1]; exact hgm.c2, by rw [hw.1]; exact hgm.piles, by unfold toI; rw [List.length_map]; have := hgm.l15; exact om_260 this, hgm.r1, hgm.z0, hgm.z1⟩
  · rw [htl, ← F.q4]
    refine List.filter_congr fun m hm => ?_
    rw [hta m (List.mem_range.mp hm)]; rfl
  · rw [hex, hkt, htl]; exact F.q5
  · rw [hex, hkt]; exact F.q5n
  · rw [hex]; exact F.q6
  · rw [hex, hkt]; exact F.q7
  · rw [hex, hl, hsh]
    exact lights_of F h1 h2 hq4 hl8
  · rw [hl, hsh, hbits, htl]
    exact wheel_of bits F h0 h1 h2 hq4 hl8 (t + 1 - f) 0 (by omega)
  · refine getGo_none fun x hx => ?_
    rcases List.mem_append.mp hx with z | z
    · obtain ⟨i, hi, e, -⟩ := tb_low bits F (m := t) (by exact om_365) x z
      rw [e]
      exact z_ne (F.good i (by exact om_364 htl hi)).small
    · obtain rfl := List.mem_singleton.mp z
      show lowered (nameOf f (toI (oAt o f))) ≠ _
      rw [nameLow F (by omega)]
      exact z_ne hgf.small
end Lw
end
section
open PySem PySem.W PySem.W.X PyProof.Rows
namespace Lw
theorem kin_more {K : Frag} {l : Addr} {o : Obj} {h : Heap} (k : K.In h) (e : h.get? l = some o) : (K ++ [(l, o)]).In h ∧ (K ++ [(l, o)]).lookup l = some o := by
  have a : (K ++ [(l, o)]).In h := fun a x e' => by
    rw [List.lookup_append] at e'
    cases hx : K.lookup a with
    | some y => rw [hx] at e'; cases e'; exact k a _ hx
    | none =>
      rw [hx] at e'
      have e'' : List.lookup a [(l, o)] = some x := e'
      by_cases q : a = l
      · subst q; rw [List.lookup_cons_self] at e''; cases e''; exact e
      · have : (a == l) = false := by simpa using q
        rw [List.lookup_cons, this] at e''; cases e''
  refine ⟨a, ?_⟩
  rw [List.lookup_append]
  cases hx : K.lookup l with
  | some y => have := k _ _ hx; rw [e] at this; cases this; rfl
  | none => show List.lookup l [(l, o)] = some o; rw [List.lookup_cons_self]
theorem room_caller : Room callerA 7 := ⟨rfl, by decide +kernel, by decide +kernel⟩
theorem frames_caller : callerA.frames = some [] := rfl
theorem enter (plain : ∀ cards drawn cutb : Int, 1 ≤ cards → cards ≤ 15 → 0 ≤ drawn → drawn < 1048576 → 0 ≤ cutb → cutb < 32768 → ∃ gs tl u first nm k tolds ts0, LF1 cards drawn cutb gs tl u first nm k tolds ts0) :
  PySem.Challenge.rw_pm0077_01.Holds := hd_01 ⟨partF, partT, by
  k_fill
  intro w s₀ s₁ mg mb G Y fa o pm cd doc dV kV ho hd hcd hD hmg hg args vals as hpre hlay hrd hwl hlo
  have KX := kIn_of Y
  refine Ground.open G ?_
  intro T B D TE TW
  wrow_args hpre hlay hrd hwl hlo
  x_fa T KX hmg
  clear hd hcd hD hmg
  rename_i ns hs hlay0 hLay hr1 hl2 as1 as2 l vs as3 hL ra w1 r0 hI hr hcond hcond2
  obtain ⟨o', ho', hcls, k, hdat⟩ := hL
  obtain ⟨kin, hk⟩ := kin_more KX ho'
  have ok : Okb (Γ3 w mg mb s₁.os l o') s₁.heap s₁ [] := ⟨fun _ _ e => e, ⟨kin, T.g, T.b, T.nolimit, T.builtins⟩, (fun _ h => nomatch h), List.nodup_nil, hg, rfl⟩
  refine wpAny_mono (c_law w mg mb s₁.os l o' vs.toArray k ns hk hcls hdat (by simpa using hI) (by exact om_150 hcond) plain callerA s₁.heap s₁ [.ref l] [] frames_caller room_caller ok (.cons (.v _) .nil) .nil).call (fun v s' ⟨g', O', d, G', i, q⟩ => ?_) (fun _ _ e => e.elim)
  subst q
  cases i
  refine ⟨.inl ⟨_, .bool true, [], rfl, fun _ => rfl, ReadsW.bool true, ?_, fun _ => ⟨List.nodup_nil, fun _ hm => nomatch hm⟩⟩, .of_keep fun b o e => G'.to.pres b o e (fun h => nomatch h), G'.ok.os, .of_eq G'.ok.gens⟩
  wrow_post⟩
end Lw
end
theorem PySem.Challenge.cw_pm0077_01_holds : PySem.Challenge.rw_pm0077_01.Holds := by
  exact Lw.enter Lw.plain01
