import PyProof.Rows.All
import Wide.All
import OpenK.AllK
import Wide.FinOn
import PyProof.WalksMore
import PyProof.ZipIter
import PyProof.Rows.LoopUnroll
import PyProof.DelItemList
import Flt.RightMore
import PyProof.AutoIntOps
import PyProof.AutoFloatOps
import Flt.Calls
import PyProof.GenCompD
import PyProof.CodeObjX
import PyProof.StationsW
import OpenK.KCall
import PyProof.ExcBaseAll.ValueError
import PyProof.ExcStrCall
import PyProof.ExcStrAll.ValueError
import PyProof.RulesAs
import PyProof.NsDelKeeps
import KE.KLam
import PyProof.StrLawsJoin
import PySem.Challenge.RW_rw0059_01
set_option Elab.async false
set_option linter.all false
set_option maxHeartbeats 1000000
section
open PySem PySem.W PyProof.Rows
namespace Mine
set_option maxRecDepth 100000
set_option maxHeartbeats 8000000
open_top hd for PySem.Challenge.rw_rw0059_01
end Mine
end
open PySem PySem.W PyProof.Rows
namespace Mine
section
theorem z0 {a : Nat} {b c d e f g i : Int} {j k l m : Nat} (h1 : ((0 : Int) ≤ b) ∧ (b ≤ (8 : Int))) (h2 : ((0 : Int) ≤ c) ∧ (c ≤ (8 : Int))) (h3 : ((0 : Int) ≤ d) ∧ (d ≤ (8 : Int))) (h4 : ((0 : Int) ≤ e) ∧ (e ≤ (8 : Int))) (h5 : ((0 : Int) ≤ f) ∧ (f ≤ (8 : Int))) (h6 : ((g + d) ≤ i) ∧ (i < (((c - e) - f) + (1 : Int)))) (h7 : (b ≤ g) ∧ (g < ((c - ((d + e) + f)) + (1 : Int)))) (h8 : j < (Int.toNat ((((c - e) - f) + (1 : Int)) - (g + d)))) (h9 : k < (Int.toNat (((c - ((d + e) + f)) + (1 : Int)) - b))) (h10 : l < (Int.toNat (((c - f) + (1 : Int)) - (i + e)))) (h11 : m ≤ ((k * (81 : Nat)) + (j * (9 : Nat)))) (h12 : a ≤ (m + l)) : (a + (1 : Nat)) ≤ (4096 : Nat) := by grind
theorem z1 {a b c d e f : Nat} (h1 : ((d + e) + c) ≤ a) (h2 : ((b : Int) + (f : Int)) = (((b + c) : Nat) : Int)) (h3 : b ≤ (d + e)) : ((a - (b + c)) - ((d + e) - b)) = (a - ((d + e) + c)) := by grind
theorem z2 {a b c d e : Nat} (h1 : ((c : Int) + (d : Int)) = (((c + e) : Nat) : Int)) (h2 : (c + e) ≤ a) (h3 : b ≤ c) : ((a - b) - (c - b)) = (a - c) := by lia
theorem z3 {a b c d : Nat} (h1 : a = c) (h2 : d = a) (h3 : b ≤ c) : (min a b) = (min (a + (1 : Nat)) b) := by grind
theorem z4 {a b c : Nat} (h1 : b = c) (h2 : c ≤ a) : (Int.toNat ((a : Int) - (b : Int))) = (a - c) := by simp_all
theorem z5 {a b : Int} (h1 : (Int.natAbs a) ≤ ((2 : Nat) ^ (40 : Nat))) (h2 : (Int.natAbs b) ≤ ((2 : Nat) ^ (41 : Nat))) : (Int.natAbs (a - b)) < ((2 : Nat) ^ (53 : Nat)) := by omega
theorem z6 {a b : Nat} (h1 : (0 : Nat) < a) (h2 : a < (64 : Nat)) (h3 : b = a) (h4 : ¬ (((a : Int) % (2 : Int)) = (1 : Int))) : (Int.toNat (((a : Int) / (2 : Int)) - (1 : Int))) = ((a - (1 : Nat)) / (2 : Nat)) := by grind
theorem z7 {a b : Nat} (h1 : ((a : Int) % (2 : Int)) = (1 : Int)) (h2 : (0 : Nat) < a) (h3 : a < (64 : Nat)) (h4 : b = a) : (Int.toNat ((a : Int) / (2 : Int))) = ((a - (1 : Nat)) / (2 : Nat)) := by grind
theorem z8 {a b c d : Nat} (h1 : c = b) (h2 : d = b) (h3 : a ≤ c) : (min a b) = (min a (b + (1 : Nat))) := by grind
theorem z9 {a : Nat} {b : Int} (h1 : (1 : Int) ≤ b) (h2 : (a : Int) = b) : ((a - (1 : Nat)) / (2 : Nat)) = (Int.toNat ((b - (1 : Int)) / (2 : Int))) := by lia
theorem z10 {a : Nat}  : (Int.toNat (max (0 : Int) (min ((-(1 : Int)) + (a : Int)) (a : Int)))) = (a - (1 : Nat)) := by grind
theorem z11 {a b : Int} {c : Nat} (h1 : (Int.natAbs b) ≤ ((2 : Nat) ^ (40 : Nat))) (h2 : (Int.natAbs a) ≤ (c * ((2 : Nat) ^ (40 : Nat)))) : (Int.natAbs (a + (b + (0 : Int)))) ≤ ((c + (1 : Nat)) * ((2 : Nat) ^ (40 : Nat))) := by omega
theorem z12 {a b c : Nat} (h1 : b ≤ (3 : Nat)) : (min a (min b c)) ≤ (3 : Nat) := by grind
theorem z13 {a b c : Nat} (h1 : b ≤ c) (h2 : c ≤ a) : ((a - b) - (c - b)) = (a - c) := by grind
theorem z14 {a b c d e f : Nat} (h1 : (a + b) ≤ c) (h2 : e = (a + b)) (h3 : f = b) : (((a + b) + (c - (a + b))) + d) = (c + d) := by simp_all
theorem z15 {a b : Int} {c : Nat} {d : Int} {e f g : Nat} (h1 : ((0 : Int) ≤ b) ∧ (b ≤ ((8 : Int) * (c : Int)))) (h2 : (0 : Int) ≤ a) (h3 : (2 : Int) ≤ d) (h4 : (e : Int) = d) (h5 : (c : Int) = d) (h6 : f = e) (h7 : g = c) (h8 : a ≤ ((8 : Int) * (8 : Int))) (h9 : d ≤ (8 : Int)) : (Int.natAbs (a - b)) ≤ (64 : Nat) := by grind
theorem z16 {a b c : Nat} (h1 : c = (8 : Nat)) : (min (((8 : Nat) - a) - b) (c - b)) = (((8 : Nat) - a) - b) := by grind
theorem z17 {a b : Int} {c : Nat} {d : Int} {e f g : Nat} (h1 : ((0 : Int) ≤ b) ∧ (b ≤ ((8 : Int) * (c : Int)))) (h2 : (0 : Int) ≤ a) (h3 : (2 : Int) ≤ d) (h4 : (c : Int) = d) (h5 : (e : Int) = d) (h6 : f = c) (h7 : g = e) (h8 : a ≤ ((8 : Int) * (8 : Int))) (h9 : d ≤ (8 : Int)) : (Int.natAbs (a - b)) ≤ (64 : Nat) := by grind
theorem z18 {a b c d : Nat} (h1 : ((b + c) + d) ≤ a) : ((a - b) - (c + d)) = (a - ((b + c) + d)) := by grind
theorem z19 {a b c : Nat} (h1 : a ≤ c) : (min (a - b) (c - b)) = (a - b) := by grind
theorem z20 {a b : Int} (h1 : ((Int.natAbs a) ≤ (8 : Nat)) ∧ ((Int.natAbs b) ≤ (8 : Nat))) : (Int.natAbs ((2 : Int) * (a + b))) < ((2 : Nat) ^ (53 : Nat)) := by omega
theorem z21 {a : Nat} {b : Int} (h1 : (a : Int) = b) : (a / (2 : Nat)) = (Int.toNat (b / (2 : Int))) := by subst_vars; rfl
theorem z22 {a b c : Nat} {d e f g : Int} (h1 : ((a : Int) + (b : Int)) ≤ (c : Int)) (h2 : d = (a : Int)) (h3 : e = (c : Int)) (h4 : d = f) (h5 : e = g) : (a + b) ≤ c := by lia
theorem z23 {a : Int} {b : Nat} {c d : Int} {e f : Nat} (h1 : (d + (e : Int)) ≤ a) (h2 : (a + (b : Int)) ≤ c) (h3 : (f : Int) ≤ d) : ((Int.toNat a) + b) ≤ (Int.toNat c) := by grind
theorem z24 {a b c d e f : Nat} (h1 : (min (d - a) (e - a)) = ((b + c) + f)) (h2 : d ≤ e) (h3 : a ≤ d) : ((a + b) + c) ≤ d := by grind
theorem z25 {a b c d e f g : Int} (h1 : ((e + f) ≤ c) ∧ (c < (((a - d) - b) + (1 : Int)))) (h2 : (0 : Int) ≤ g) (h3 : (0 : Int) ≤ f) (h4 : (0 : Int) ≤ d) (h5 : (0 : Int) ≤ b) (h6 : (g ≤ e) ∧ (e < ((a - ((f + d) + b)) + (1 : Int)))) (h7 : a ≤ (8 : Int)) : (Int.toNat (((a - b) + (1 : Int)) - (c + d))) ≤ (9 : Nat) := by lia
theorem z26 {a : Nat} {b c d e f : Int} {g : Nat} (h1 : ((0 : Int) ≤ b) ∧ (b ≤ (8 : Int))) (h2 : ((0 : Int) ≤ c) ∧ (c ≤ (8 : Int))) (h3 : ((0 : Int) ≤ d) ∧ (d ≤ (8 : Int))) (h4 : ((0 : Int) ≤ e) ∧ (e ≤ (8 : Int))) (h5 : (0 : Int) ≤ f) (h6 : g = (Int.toNat ((((b - d) - e) + (1 : Int)) - (f + c)))) (h7 : a ≤ (g * (9 : Nat))) : a ≤ (81 : Nat) := by grind
theorem z27 {a b : Nat} (h1 : ((a - b) + (b - a)) ≤ (0 : Nat)) : a = b := by grind
theorem z28 {a b c : Nat} (h1 : (min (b - c) (a - c)) = a) (h2 : b ≤ a) (h3 : c ≤ a) (h4 : ¬ (c = (0 : Nat))) : a = (0 : Nat) := by lia
theorem z29 {a b c d : Nat} (h1 : b ≤ ((min c d) * (1 : Nat))) : (a + b) ≤ (a + c) := by grind
theorem z30 {a b c d : Nat} (h1 : ((a : Int) - (b : Int)) = (((a - b) : Nat) : Int)) (h2 : (a - c) = (d + b)) (h3 : c ≤ a) : ((a - b) - c) = d := by grind
theorem z31 {a b c : Nat}  : (min (a - b) (c - b)) ≤ c := by grind
theorem z32 {a b c d e f g : Nat} (h1 : (1 : Nat) ≤ b) (h2 : (c + b) ≤ ((8 : Nat) - d)) (h3 : (a + e) ≤ f) (h4 : (f + g) ≤ c) (h5 : d ≤ (2 : Nat)) : ((0 : Int) ≤ (a : Int)) ∧ ((a : Int) ≤ (7 : Int)) := by grind
theorem z33 {a b c : Nat} (h1 : (c + b) ≤ a) (h2 : c ≤ (2 : Nat)) (h3 : b ≤ (2 : Nat)) : (a - (a - b)) = b := by grind
theorem z34 {a b c d e f : Nat} (h1 : ((a + b) + e) ≤ d) (h2 : ((c : Int) + (f : Int)) = (((c + e) : Nat) : Int)) (h3 : (c + e) ≤ d) (h4 : c ≤ (a + b)) : ((a + b) - c) ≤ (d - (c + e)) := by grind
theorem z35 {a : Int} {b c : Nat} {d : Int} {e f g : Nat} (h1 : (d + (((e : Int) + (f : Int)) + (b : Int))) ≤ ((8 : Int) - (c : Int))) (h2 : (a + (b : Int)) ≤ ((8 : Int) - (c : Int))) (h3 : (g : Int) ≤ d) (h4 : c ≤ (2 : Nat)) : ((Int.toNat a) + b) ≤ ((8 : Nat) - c) := by lia
theorem z36 {a : Int} {b : Nat} {c : Int} {d : Nat} (h1 : (a + (b : Int)) ≤ c) (h2 : (d : Int) ≤ a) : ((Int.toNat a) + b) ≤ (Int.toNat c) := by grind
theorem z37 {a : Int} (h1 : ((0 : Int) ≤ a) ∧ (a ≤ (7 : Int))) : (a = (0 : Int)) ∨ ((a = (1 : Int)) ∨ ((a = (2 : Int)) ∨ ((a = (3 : Int)) ∨ ((a = (4 : Int)) ∨ ((a = (5 : Int)) ∨ ((a = (6 : Int)) ∨ (a = (7 : Int)))))))) := by grind
theorem z38 {a b : Nat} (h1 : (0 : Nat) < a) (h2 : a < (64 : Nat)) (h3 : b = a) : (Int.toNat ((a : Int) / (2 : Int))) = (a / (2 : Nat)) := by subst_vars; rfl
theorem z39 {a : Int} {b c d e : Nat} (h1 : (2 : Int) ≤ a) (h2 : (b : Int) = a) (h3 : (c : Int) = a) (h4 : d = b) (h5 : e = c) (h6 : a ≤ (8 : Int)) : (Int.natAbs ((2 : Int) * (a - (1 : Int)))) ≤ (14 : Nat) := by grind
theorem z40 {a : Int} {b : Nat} {c : Int} {d e f : Nat} (h1 : ((0 : Int) ≤ a) ∧ (a ≤ ((8 : Int) * (b : Int)))) (h2 : (2 : Int) ≤ c) (h3 : (d : Int) = c) (h4 : (b : Int) = c) (h5 : e = d) (h6 : f = b) (h7 : c ≤ (8 : Int)) : (Int.natAbs ((2 : Int) * a)) ≤ ((2 : Nat) ^ (41 : Nat)) := by lia
theorem z41 {a b : Int} {c : Nat} {d : Int} {e f : Nat} (h1 : (b + (c : Int)) ≤ d) (h2 : (d + (e : Int)) ≤ a) (h3 : (f : Int) ≤ b) : (((Int.toNat a) : Nat) : Int) = a := by grind
theorem z42 {a : Int} {b : Nat} {c : Int} {d e f : Nat} (h1 : ((0 : Int) ≤ a) ∧ (a ≤ ((8 : Int) * (b : Int)))) (h2 : (2 : Int) ≤ c) (h3 : (b : Int) = c) (h4 : (d : Int) = c) (h5 : e = b) (h6 : f = d) (h7 : c ≤ (8 : Int)) : (Int.natAbs a) ≤ (64 : Nat) := by grind
theorem z43 {a b c d e f : Nat} (h1 : b < (d - a)) (h2 : e = f) (h3 : c = f) (h4 : c = f) (h5 : d ≤ f) : (a + b) < c := by grind
theorem z44 {a : Int} {b c : Nat} (h1 : a ≠ (0 : Int)) (h2 : b ≠ (0 : Nat)) (h3 : c ≠ (0 : Nat)) : (0 : Nat) < (Int.natAbs a) := by simp_all
theorem z45 {a b c d e f g : Int} (h1 : (0 : Int) ≤ b) (h2 : (0 : Int) ≤ c) (h3 : (0 : Int) ≤ d) (h4 : (0 : Int) ≤ e) (h5 : (f + ((c + d) + e)) ≤ g) (h6 : (a + (d + e)) ≤ g) (h7 : (f + c) ≤ a) (h8 : g ≤ (8 : Int)) (h9 : b ≤ f) : ((0 : Int) ≤ a) ∧ (a ≤ (8 : Int)) := by grind
theorem z46 {a : Int} (h1 : ((-((2 : Int) ^ (20 : Nat))) ≤ a) ∧ (a ≤ ((2 : Int) ^ (20 : Nat)))) : (Int.natAbs a) < ((2 : Nat) ^ (60 : Nat)) := by omega
theorem z47 {a b : Int} (h1 : (0 : Int) ≤ b) (h2 : (0 : Int) ≤ a) (h3 : b ≤ ((64 : Int) * (64 : Int))) (h4 : a ≤ ((8 : Int) * (512 : Int))) : (Int.natAbs (a - b)) ≤ (8192 : Nat) := by grind
theorem z48 {a : Int} {b c d e : Nat} (h1 : (2 : Int) ≤ a) (h2 : (b : Int) = a) (h3 : (c : Int) = a) (h4 : d = b) (h5 : e = c) (h6 : a ≤ (8 : Int)) : (Int.natAbs ((2 : Int) * a)) ≤ (16 : Nat) := by grind
theorem z49 {a b c d : Nat} (h1 : (c - a) = (b + d)) (h2 : a ≤ c) : (a + b) = (c - d) := by grind
theorem z50 {a b c d e : Nat} (h1 : (1 : Nat) ≤ b) (h2 : (c + b) ≤ ((8 : Nat) - d)) (h3 : (a + e) ≤ c) (h4 : d ≤ (2 : Nat)) : ((0 : Int) ≤ (a : Int)) ∧ ((a : Int) ≤ (7 : Int)) := by grind
theorem z51 {a b c d : Nat} (h1 : d = a) (h2 : a ≤ b) : ((a + (b - a)) + c) = (b + c) := by simp_all
theorem z52 {a b c d e f g i : Nat} (h1 : (d + e) ≤ ((8 : Nat) - f)) (h2 : (a + b) ≤ g) (h3 : (g + i) ≤ d) (h4 : c = (8 : Nat)) (h5 : f ≤ (2 : Nat)) : (a + b) ≤ c := by grind
theorem z53 {a b c : Nat} (h1 : (a - b) = (c + (1 : Nat))) (h2 : b < a) : (a - (b + (1 : Nat))) = c := by grind
theorem z54 {a b c d e f : Int} (h1 : (0 : Int) ≤ f) (h2 : (0 : Int) ≤ e) (h3 : (0 : Int) ≤ b) (h4 : (0 : Int) ≤ c) (h5 : (f ≤ d) ∧ (d < ((a - ((e + b) + c)) + (1 : Int)))) (h6 : a ≤ (8 : Int)) : ((Int.toNat ((((a - b) - c) + (1 : Int)) - (d + e))) * (9 : Nat)) ≤ (81 : Nat) := by lia
theorem z55 {a b c d e : Nat} (h1 : ((min d e) * (9 : Nat)) ≤ (d * (9 : Nat))) (h2 : b ≤ ((min d e) * (9 : Nat))) (h3 : a ≤ (c * (81 : Nat))) : (a + b) ≤ ((c * (81 : Nat)) + (d * (9 : Nat))) := by lia
theorem z56 {a : Nat} (h1 : a ≤ (2 : Nat)) : ((8 : Nat) - ((8 : Nat) - a)) = a := by decide +revert
theorem z57 {a b c d e f g : Int} (h1 : ((0 : Int) ≤ c) ∧ (c ≤ (8 : Int))) (h2 : ((0 : Int) ≤ d) ∧ (d ≤ (8 : Int))) (h3 : ((0 : Int) ≤ e) ∧ (e ≤ (8 : Int))) (h4 : ((f + d) ≤ g) ∧ (g < (((a - e) - b) + (1 : Int)))) (h5 : (c ≤ f) ∧ (f < ((a - ((d + e) + b)) + (1 : Int)))) : (-((2 : Int) ^ (40 : Nat))) ≤ ((a - b) + (1 : Int)) := by grind
theorem z58 {a b c d e : Nat} (h1 : ((a : Int) + (d : Int)) = (((a + e) : Nat) : Int)) (h2 : (a + e) ≤ c) (h3 : b ≤ c) (h4 : b ≤ a) : (a - b) ≤ (c - b) := by grind
theorem z59 {a b c : Nat} {d : Int} {e : Nat} (h1 : (a : Int) = d) (h2 : (b : Int) = d) (h3 : c = a) (h4 : e = b) : (min a b) = c := by grind
theorem z60 {a b : Nat} {c : Int} {d e : Nat} (h1 : (2 : Int) ≤ c) (h2 : (a : Int) = c) (h3 : (b : Int) = c) (h4 : d = a) (h5 : e = b) (h6 : c ≤ (8 : Int)) : (min a b) ≤ (8 : Nat) := by grind
theorem z61 {a b c d e f g i : Int}  : ((((a - b) - c) + d) + (((e - f) - g) + i)) = ((((a + e) - (b + f)) - (c + g)) + (i + d)) := by simp +arith
theorem z62 {a b : Int} (h1 : ((-((2 : Int) ^ (40 : Nat))) ≤ a) ∧ (a ≤ ((2 : Int) ^ (40 : Nat)))) (h2 : ((-((2 : Int) ^ (40 : Nat))) ≤ b) ∧ (b ≤ ((2 : Int) ^ (40 : Nat)))) : (((((-(9223372036854775808 : Int)) ≤ a) ∧ (a < (9223372036854775808 : Int))) ∧ (((-(9223372036854775808 : Int)) ≤ b) ∧ (b < (9223372036854775808 : Int)))) ∧ (((-(9223372036854775808 : Int)) ≤ (max (b - a) (0 : Int))) ∧ ((max (b - a) (0 : Int)) < (9223372036854775808 : Int)))) ∧ (((max (b - a) (0 : Int)) = (0 : Int)) ∨ (((-(9223372036854775808 : Int)) ≤ b) ∧ (b < (9223372036854775808 : Int)))) := by lia
theorem z63 {a b c d e f g i : Int} (h1 : (0 : Int) ≤ b) (h2 : (0 : Int) ≤ c) (h3 : (0 : Int) ≤ d) (h4 : (0 : Int) ≤ e) (h5 : (f + c) ≤ g) (h6 : (g + d) ≤ a) (h7 : (a + e) ≤ i) (h8 : i ≤ (8 : Int)) (h9 : b ≤ f) : ((0 : Int) ≤ a) ∧ (a ≤ (8 : Int)) := by lia
theorem z64 {a b c : Nat} (h1 : (2 : Nat) ≤ a) (h2 : b = a) (h3 : c = a) (h4 : a ≤ (4096 : Nat)) : (Int.natAbs ((2 : Int) * ((a : Int) - (1 : Int)))) < ((2 : Nat) ^ (53 : Nat)) := by lia
theorem z65 {a b : Nat} (h1 : ((a : Int) % (2 : Int)) = (1 : Int)) (h2 : (0 : Nat) < a) (h3 : a < (64 : Nat)) (h4 : b = a) : ((a - (1 : Nat)) / (2 : Nat)) < a := by grind
theorem z66 {a b c d e f g i j : Nat} (h1 : (c + d) ≤ e) (h2 : (e + f) ≤ g) (h3 : (g + i) ≤ j) (h4 : b = (8 : Nat)) (h5 : j ≤ (8 : Nat)) (h6 : a ≤ c) : a ≤ b := by grind
theorem z67 {a b : Int} {c : Nat} (h1 : ((0 : Int) ≤ b) ∧ (b ≤ ((64 : Int) * (c : Int)))) (h2 : ((0 : Int) ≤ a) ∧ (a ≤ (64 : Int))) : ((0 : Int) ≤ (a + b)) ∧ ((a + b) ≤ ((64 : Int) * (((c + (1 : Nat)) : Nat) : Int))) := by grind
theorem z68 {a b : Int} {c d : Nat} (h1 : (b + (c : Int)) ≤ a) (h2 : (d : Int) ≤ b) : (((Int.toNat a) : Nat) : Int) = a := by grind
theorem z69 {a b c d : Int}  : ((a - b) - (c - d)) = (((a - c) - b) + d) := by simp +arith
theorem z70 {a b c : Nat} (h1 : (2 : Nat) ≤ a) (h2 : b = a) (h3 : c = a) (h4 : a ≤ (4096 : Nat)) : (Int.natAbs ((2 : Int) * (a : Int))) < ((2 : Nat) ^ (53 : Nat)) := by grind
theorem z71 {a b c d : Int} {e f : Nat} {g : Int} (h1 : ((-a) ≤ c) ∧ (c ≤ a)) (h2 : ((-b) ≤ d) ∧ (d ≤ b)) (h3 : e < f) (h4 : g = (a + b)) : ((-(a + b)) ≤ (c + d)) ∧ ((c + d) ≤ (a + b)) := by grind
theorem z72 {a b c d e f : Nat} (h1 : (d + e) ≤ ((8 : Nat) - f)) (h2 : (a + b) ≤ d) (h3 : c = (8 : Nat)) (h4 : f ≤ (2 : Nat)) : (a + b) ≤ c := by grind
theorem z73 {a b c : Nat} (h1 : (1 : Nat) ≤ b) (h2 : (a + b) ≤ ((8 : Nat) - c)) (h3 : c ≤ (2 : Nat)) : ((0 : Int) ≤ (a : Int)) ∧ ((a : Int) ≤ (7 : Int)) := by grind
theorem z74 {a b c d e f g : Nat} (h1 : (f + d) ≤ ((8 : Nat) - e)) (h2 : (a + b) ≤ g) (h3 : (g + c) ≤ f) (h4 : e ≤ (2 : Nat)) : ((a : Int) + (((b : Int) + (c : Int)) + (d : Int))) ≤ ((8 : Int) - (e : Int)) := by grind
theorem z75 {a b c : Nat} {d e : Int} (h1 : ((a : Int) + (b : Int)) ≤ (c : Int)) (h2 : d = (c : Int)) (h3 : d = e) : (a + b) ≤ c := by lia
theorem z76 {a b c d e f g i : Nat} (h1 : (a + b) ≤ d) (h2 : (d + e) ≤ f) (h3 : (f + g) ≤ i) (h4 : c = (8 : Nat)) (h5 : i ≤ (8 : Nat)) : (a + b) ≤ c := by grind
theorem z77 {a : Nat} (h1 : ((a : Int) % (2 : Int)) = (1 : Int)) : ((((a : Int) + (1 : Int)) / (2 : Int)) - (1 : Int)) = (((a : Int) - (1 : Int)) / (2 : Int)) := by lia
theorem z78 {a b c d e f g : Nat} (h1 : (c + d) ≤ ((8 : Nat) - b)) (h2 : (a + e) ≤ f) (h3 : (f + g) ≤ c) : a ≤ ((8 : Nat) - b) := by grind
theorem z79 {a b c d e f g : Int} (h1 : ((0 : Int) ≤ c) ∧ (c ≤ (8 : Int))) (h2 : ((0 : Int) ≤ d) ∧ (d ≤ (8 : Int))) (h3 : ((0 : Int) ≤ b) ∧ (b ≤ (8 : Int))) (h4 : ((e + d) ≤ a) ∧ (a < (((f - b) - g) + (1 : Int)))) (h5 : (c ≤ e) ∧ (e < ((f - ((d + b) + g)) + (1 : Int)))) : (-((2 : Int) ^ (40 : Nat))) ≤ (a + b) := by grind
theorem z80 {a b : Nat} (h1 : b < a) : ((a + (1 : Nat)) - (b + (1 : Nat))) < ((a + (1 : Nat)) - b) := by grind
theorem z81 {a b c d : Nat} (h1 : a ≤ (56 : Nat)) (h2 : d ≤ (8 : Nat)) (h3 : b ≤ (8 : Nat)) (h4 : c ≤ d) : ((a + b) + c) ≤ (4096 : Nat) := by grind
theorem z82 {a b c d : Int} (h1 : ((0 : Int) ≤ a) ∧ (a ≤ (8 : Int))) (h2 : ((0 : Int) ≤ d) ∧ (d ≤ (8 : Int))) (h3 : ((0 : Int) ≤ b) ∧ (b ≤ (8 : Int))) (h4 : (0 : Int) ≤ c) : (Int.toNat (((a - b) + (1 : Int)) - (c + d))) ≤ (9 : Nat) := by grind
theorem z83 {a b c d : Int} (h1 : ((0 : Int) ≤ b) ∧ (b ≤ (8 : Int))) (h2 : ((0 : Int) ≤ c) ∧ (c ≤ (8 : Int))) (h3 : ((0 : Int) ≤ d) ∧ (d ≤ (8 : Int))) (h4 : (a = b) ∨ ((a = c) ∨ (a = d))) : ((-((2 : Int) ^ (40 : Nat))) ≤ a) ∧ (a ≤ ((2 : Int) ^ (40 : Nat))) := by grind
theorem z84 {a : Int} {b : Nat} {c : Int} {d e f : Nat} (h1 : ((0 : Int) ≤ a) ∧ (a ≤ ((8 : Int) * (b : Int)))) (h2 : (2 : Int) ≤ c) (h3 : (b : Int) = c) (h4 : (d : Int) = c) (h5 : e = b) (h6 : f = d) (h7 : c ≤ (8 : Int)) : a ≤ (64 : Int) := by grind
theorem z85 {a : Nat}  : (Int.toNat (max (0 : Int) (a : Int))) = a := by subst_vars; rfl
theorem z86 {a b c d e f g : Nat} (h1 : (d + e) ≤ ((8 : Nat) - c)) (h2 : (a + b) ≤ f) (h3 : (f + g) ≤ d) : (a + b) ≤ ((8 : Nat) - c) := by grind
theorem z87 {a b : Nat} (h1 : (0 : Nat) < a) (h2 : a < (64 : Nat)) (h3 : b = a) : ((a - (1 : Nat)) / (2 : Nat)) < a := by lia
theorem z88 {a : Int} {b c d e : Nat} (h1 : (2 : Int) ≤ a) (h2 : (b : Int) = a) (h3 : (c : Int) = a) (h4 : d = b) (h5 : e = c) (h6 : a ≤ (8 : Int)) : ((0 : Int) ≤ (a - (1 : Int))) ∧ ((a - (1 : Int)) ≤ (7 : Int)) := by lia
theorem z89 {a b : Int} (h1 : (Int.natAbs b) < ((2 : Nat) ^ (53 : Nat))) : (Int.natAbs ((a + b) - a)) < ((2 : Nat) ^ (53 : Nat)) := by simp_all +arith
theorem z90 {a b c d : Nat} (h1 : a ≤ (c + d)) : ((a + b) + ((c + d) - a)) = ((c + d) + b) := by simp_all +arith
theorem z91 {a b c d : Nat} (h1 : (b + d) ≤ c) (h2 : a ≤ b) : (a ≤ b) ∧ (b < (a + ((c + (1 : Nat)) - a))) := by lia
theorem z92 {a b c d : Nat} (h1 : ((c : Int) + (d : Int)) = (((c + a) : Nat) : Int)) (h2 : (c + a) ≤ b) : a ≤ (b - c) := by lia
theorem z93 {a : Int} {b : Nat} {c : Int} {d e f : Nat} (h1 : ((0 : Int) ≤ a) ∧ (a ≤ ((8 : Int) * (b : Int)))) (h2 : (2 : Int) ≤ c) (h3 : (d : Int) = c) (h4 : (b : Int) = c) (h5 : e = d) (h6 : f = b) (h7 : c ≤ (8 : Int)) : a ≤ (64 : Int) := by grind
theorem z94 {a b : Nat}  : ((a + b) - a) = b := by simp +arith
theorem z95 {a : Int}  : (Int.toNat (a - (0 : Int))) = (Int.toNat a) := by simp +arith
theorem z96 {a : Nat} (h1 : ¬ ((a : Int) < (0 : Int))) : (Int.toNat (max (0 : Int) (a : Int))) = a := by subst_vars; rfl
theorem z97 {a b c d e f : Int} (h1 : (0 : Int) ≤ b) (h2 : (0 : Int) ≤ c) (h3 : (0 : Int) ≤ d) (h4 : (0 : Int) ≤ e) (h5 : (a + ((c + d) + e)) ≤ f) (h6 : f ≤ (8 : Int)) (h7 : b ≤ a) : ((0 : Int) ≤ a) ∧ (a ≤ (8 : Int)) := by lia
theorem z98 {a : Int} (h1 : (0 : Int) ≤ a) (h2 : a ≤ ((56 : Int) * (8 : Int))) : (Int.natAbs ((2 : Int) * a)) ≤ ((2 : Nat) ^ (40 : Nat)) := by lia
theorem z99 {a b c d e f : Int} (h1 : ((0 : Int) ≤ d) ∧ (d ≤ (8 : Int))) (h2 : ((0 : Int) ≤ e) ∧ (e ≤ (8 : Int))) (h3 : (d ≤ f) ∧ (f < ((a - ((e + b) + c)) + (1 : Int)))) : (-((2 : Int) ^ (40 : Nat))) ≤ (((a - b) - c) + (1 : Int)) := by grind
theorem z100 {a b c d e : Nat} (h1 : (e + c) ≤ ((8 : Nat) - d)) (h2 : (a + b) ≤ e) (h3 : d ≤ (2 : Nat)) : ((a : Int) + ((b : Int) + (c : Int))) ≤ ((8 : Int) - (d : Int)) := by grind
theorem z101 {a b c d e : Int} (h1 : (0 : Int) ≤ e) (h2 : (0 : Int) ≤ b) (h3 : (0 : Int) ≤ c) (h4 : (0 : Int) ≤ d) (h5 : a ≤ (8 : Int)) : ((Int.toNat (((a - ((b + c) + d)) + (1 : Int)) - e)) * (81 : Nat)) ≤ (729 : Nat) := by grind
theorem z102 {a b c : Int} (h1 : (b ≤ a) ∧ (a < c)) : (Int.toNat (a - b)) < (Int.toNat (c - b)) := by lia
theorem z103 {a : Nat} {b : Int} {c d : Nat} (h1 : b ≤ (8 : Int)) (h2 : c ≤ d) : ((a + (Int.toNat (b - (a : Int)))) + c) ≤ ((a + (8 : Nat)) + d) := by grind
theorem z104 {a : Int} (h1 : (0 : Int) ≤ a) (h2 : a ≤ ((8 : Int) * (8 : Int))) : (Int.natAbs ((2 : Int) * a)) ≤ ((2 : Nat) ^ (40 : Nat)) := by lia
theorem z105 {a b c d e f g : Int} (h1 : ((0 : Int) ≤ b) ∧ (b ≤ (8 : Int))) (h2 : ((0 : Int) ≤ c) ∧ (c ≤ (8 : Int))) (h3 : ((d + c) ≤ a) ∧ (a < (((e - f) - g) + (1 : Int)))) (h4 : (b ≤ d) ∧ (d < ((e - ((c + f) + g)) + (1 : Int)))) : (0 : Int) ≤ a := by grind
theorem z106 {a b c d e f : Nat} (h1 : (a + b) ≤ d) (h2 : (d + e) ≤ f) (h3 : c = (8 : Nat)) (h4 : f ≤ (8 : Nat)) : (a + b) ≤ c := by grind
theorem z107 {a b c d : Nat} (h1 : b ≤ ((3 : Nat) * (16 : Nat))) (h2 : c ≤ (8 : Nat)) (h3 : a ≤ (d + b)) (h4 : d ≤ c) : a ≤ (56 : Nat) := by lia
theorem z108 {a : Int} {b : Nat} (h1 : ((0 : Int) ≤ a) ∧ (a ≤ (8 : Int))) (h2 : b ≤ (56 : Nat)) : (Int.toNat (a - (b : Int))) ≤ (8 : Nat) := by grind
theorem z109 {a b : Nat} (h1 : a ≤ (729 : Nat)) : (min a b) ≤ (4096 : Nat) := by grind
theorem z110 {a b : Nat} (h1 : (0 : Nat) < a) (h2 : a < (64 : Nat)) (h3 : b = a) (h4 : ¬ (((a : Int) % (2 : Int)) = (1 : Int))) : (0 : Int) ≤ (((a : Int) / (2 : Int)) - (1 : Int)) := by grind
theorem z111 {a b c : Nat}  : a = (((b + c) + a) - (b + c)) := by simp_all
theorem z112 {a b c d : Nat} (h1 : ((b : Int) - (c : Int)) = (((b - c) : Nat) : Int)) (h2 : (b - a) = (d + c)) (h3 : a ≤ b) : a ≤ (b - c) := by grind
theorem z113 {a : Int} {b : Nat} (h1 : (b : Int) ≤ a) : (((Int.toNat a) : Nat) : Int) = a := by grind
theorem z114 {a b c d e f : Int} (h1 : ((0 : Int) ≤ c) ∧ (c ≤ (8 : Int))) (h2 : ((0 : Int) ≤ d) ∧ (d ≤ (8 : Int))) (h3 : ((0 : Int) ≤ e) ∧ (e ≤ (8 : Int))) (h4 : (f ≤ a) ∧ (a < ((c - ((b + d) + e)) + (1 : Int)))) : (a + b) ≤ ((2 : Int) ^ (40 : Nat)) := by grind
theorem z115 {a b c d : Nat} (h1 : (a + b) ≤ ((8 : Nat) - d)) (h2 : c = (8 : Nat)) (h3 : d ≤ (2 : Nat)) : (a + b) ≤ c := by grind
theorem z116 {a : Int} {b c : Nat} (h1 : c = b) (h2 : ¬ (a < (1 : Int))) (h3 : ¬ (a > ((b : Int) - (1 : Int)))) : ((1 : Int) ≤ a) ∧ (a ≤ ((b : Int) - (1 : Int))) := by simp_all
theorem z117 {a b c d e f : Int} (h1 : ((0 : Int) ≤ c) ∧ (c ≤ (8 : Int))) (h2 : ((0 : Int) ≤ d) ∧ (d ≤ (8 : Int))) (h3 : ((e + f) ≤ a) ∧ (a < (((c - b) - d) + (1 : Int)))) : (a + b) ≤ ((2 : Int) ^ (40 : Nat)) := by grind
theorem z118 {a b c d e : Nat} (h1 : (c + d) ≤ ((8 : Nat) - b)) (h2 : (a + e) ≤ c) : a ≤ ((8 : Nat) - b) := by grind
theorem z119 {a : Nat}  : (((0 : Int) ≤ ((-(1 : Int)) + ((a : Int) + (1 : Int)))) ∧ (((-(1 : Int)) + ((a : Int) + (1 : Int))) < ((a : Int) + (1 : Int)))) ∧ ((Int.toNat ((-(1 : Int)) + ((a : Int) + (1 : Int)))) = a) := by simp +arith
theorem z120 {a b c d e : Nat} (h1 : (d - a) = ((b + c) + e)) (h2 : c = (3 : Nat)) (h3 : a ≤ d) : ((a + b) + c) ≤ d := by grind
theorem z121 {a b : Nat} (h1 : a ≤ (3 : Nat)) : (min a b) ≤ (3 : Nat) := by grind
theorem z122 {a : Int} {b c d e : Nat} (h1 : (2 : Int) ≤ a) (h2 : (b : Int) = a) (h3 : (c : Int) = a) (h4 : d = b) (h5 : e = c) (h6 : a ≤ (8 : Int)) : (0 : Int) ≤ a := by lia
theorem z123 {a : Int} {b c d e : Nat} (h1 : (2 : Int) ≤ a) (h2 : (b : Int) = a) (h3 : (c : Int) = a) (h4 : d = b) (h5 : e = c) (h6 : a ≤ (8 : Int)) : (0 : Int) ≤ (a - (1 : Int)) := by grind
theorem z124 {a b c : Nat} (h1 : b ≤ a) (h2 : a ≤ c) : (a - b) ≤ (c - b) := by grind
theorem z125 {a : Nat}  : ((a - a) + (a - a)) = (0 : Nat) := by simp +arith
theorem z126 {a : Int} {b : Nat} (h1 : (0 : Nat) < b) (h2 : a < (b : Int)) (h3 : b ≤ (729 : Nat)) : (Int.toNat a) < b := by simp_all
theorem z127 {a b c d e f : Nat} (h1 : ((a + b) + e) = ((c + d) + f)) (h2 : a = c) (h3 : e = f) : (a + b) = (c + d) := by simp_all
theorem z128 {a b c : Nat} (h1 : c = a) (h2 : a ≤ b) : (min a b) = a := by simp_all
theorem z129 {a b : Int} (h1 : ((0 : Int) ≤ a) ∧ (a ≤ (8 : Int))) (h2 : ((0 : Int) ≤ b) ∧ (b ≤ (8 : Int))) : (Int.natAbs (a + b)) < ((2 : Nat) ^ (53 : Nat)) := by omega
theorem z130 {a : Int} (h1 : a ≠ (0 : Int)) : (0 : Nat) < (Int.natAbs a) := by simp_all
theorem z131 {a b c : Nat} (h1 : ((b : Int) - (c : Int)) = (((b - c) : Nat) : Int)) (h2 : a ≤ (b - c)) : (a + ((b - c) - a)) = (b - c) := by simp_all
theorem z132 {a b c d e : Nat} (h1 : (d - a) = ((b + c) + e)) (h2 : a ≤ d) : ((a + b) + c) ≤ d := by grind
theorem z133 {a b c : Nat} (h1 : ((min b c) * (81 : Nat)) ≤ (b * (81 : Nat))) (h2 : a ≤ ((min b c) * (81 : Nat))) : a ≤ (b * (81 : Nat)) := by lia
theorem z134 {a b c d : Nat} (h1 : ((c + d) + a) ≤ b) : a ≤ ((b - c) - d) := by grind
theorem z135 {a : Nat} (h1 : ((a : Int) % (2 : Int)) = (1 : Int)) : (((a : Int) + (1 : Int)) - ((((a : Int) + (1 : Int)) / (2 : Int)) * (2 : Int))) = (0 : Int) := by lia
theorem z136 {a : Int} {b c d e : Nat} (h1 : (2 : Int) ≤ a) (h2 : (b : Int) = a) (h3 : (c : Int) = a) (h4 : d = b) (h5 : e = c) (h6 : a ≤ (8 : Int)) : (a - (1 : Int)) ≤ (7 : Int) := by simp_all +arith
theorem z137 {a b : Int} (h1 : ((0 : Int) ≤ ((a + b) % (2 : Int))) ∧ (((a + b) % (2 : Int)) < (2 : Int))) : (((a + b) % (2 : Int)) = (0 : Int)) ∨ (((a + b) % (2 : Int)) = (1 : Int)) := by grind
theorem z138 {a b c d : Int} (h1 : ((0 : Int) ≤ a) ∧ (a ≤ (8 : Int))) (h2 : ((0 : Int) ≤ b) ∧ (b ≤ (8 : Int))) (h3 : ((0 : Int) ≤ c) ∧ (c ≤ (8 : Int))) (h4 : ((0 : Int) ≤ d) ∧ (d ≤ (8 : Int))) : (-((2 : Int) ^ (40 : Nat))) ≤ ((a - ((b + c) + d)) + (1 : Int)) := by grind
theorem z139 {a : Nat} {b : Int} {c d e : Nat} (h1 : (2 : Int) ≤ b) (h2 : (c : Int) = b) (h3 : (d : Int) = b) (h4 : a = c) (h5 : e = d) (h6 : b ≤ (8 : Int)) : (2 : Nat) ≤ a := by grind
theorem z140 {a b c d e : Nat} (h1 : (d + e) ≤ ((8 : Nat) - c)) (h2 : (a + b) ≤ d) : (a + b) ≤ ((8 : Nat) - c) := by grind
theorem z141 {a b c d : Int} (h1 : ((0 : Int) ≤ a) ∧ (a ≤ (8 : Int))) (h2 : ((0 : Int) ≤ b) ∧ (b ≤ (8 : Int))) (h3 : ((0 : Int) ≤ c) ∧ (c ≤ (8 : Int))) (h4 : ((0 : Int) ≤ d) ∧ (d ≤ (8 : Int))) : ((a - ((b + c) + d)) + (1 : Int)) ≤ ((2 : Int) ^ (40 : Nat)) := by grind
theorem z142 {a : Nat} (h1 : ((a : Int) % (2 : Int)) = (1 : Int)) : ((a : Int) / (2 : Int)) = (((a : Int) - (1 : Int)) / (2 : Int)) := by lia
theorem z143 {a : Nat} (h1 : ((a : Int) % (2 : Int)) = (0 : Int)) : (((a : Int) / (2 : Int)) - (1 : Int)) = (((a : Int) - (1 : Int)) / (2 : Int)) := by omega
theorem z144 {a b c : Nat} (h1 : a ≠ (min b c)) (h2 : a ≤ (min b c)) : a < b := by lia
theorem z145 {a : Int} (h1 : (0 : Int) ≤ a) (h2 : a ≤ (8 : Int)) : a = (((Int.toNat a) : Nat) : Int) := by grind
theorem z146 {a b : Nat} (h1 : (min (b - (0 : Nat)) (a - (0 : Nat))) = a) : a ≤ (b - (0 : Nat)) := by lia
theorem z147 {a b c : Nat} (h1 : a < b) (h2 : a < c) : a ≠ (min b c) := by lia
theorem z148 {a b c : Nat} (h1 : (c + b) ≤ a) (h2 : c ≤ (2 : Nat)) : ((a : Int) - (b : Int)) = (((a - b) : Nat) : Int) := by grind
theorem z149 {a b : Nat}  : a = ((b + a) - b) := by simp_all
theorem z150 {a b c d e f : Nat} (h1 : d = (e + (f + b))) (h2 : a ≤ f) (h3 : c ≤ e) : ((a + b) + c) ≤ d := by lia
theorem z151 {a b c : Nat} (h1 : a < c) (h2 : a ≠ (min c b)) (h3 : a ≤ (min c b)) : a < b := by lia
theorem z152 {a b : Int} (h1 : ¬ (a ≠ b)) : ((2 : Int) * a) = ((2 : Int) * b) := by simp_all
theorem z153 {a : Int} {b c : Nat} (h1 : ((((b + (1 : Nat)) : Nat) : Int) * ((2 : Int) ^ (40 : Nat))) ≤ ((4096 : Int) * ((2 : Int) ^ (40 : Nat)))) (h2 : ((-((((b + (1 : Nat)) : Nat) : Int) * ((2 : Int) ^ (40 : Nat)))) ≤ a) ∧ (a ≤ ((((b + (1 : Nat)) : Nat) : Int) * ((2 : Int) ^ (40 : Nat))))) (h3 : b < c) : (-((2 : Int) ^ (63 : Nat))) ≤ a := by grind
theorem z154 {a : Nat} {b : Int} {c d e : Nat} (h1 : (2 : Int) ≤ b) (h2 : (c : Int) = b) (h3 : (d : Int) = b) (h4 : a = c) (h5 : e = d) (h6 : b ≤ (8 : Int)) : a ≤ (4096 : Nat) := by grind
theorem z155 {a : Int} {b : Nat} (h1 : (0 : Int) ≤ a) (h2 : a < (b : Int)) : (Int.toNat a) < b := by simp_all
theorem z156 {a : Nat} (h1 : a ≤ (2 : Nat)) : (a - (0 : Nat)) = a := by simp +arith
theorem z157 {a b c d e f : Int} (h1 : (c + (e + f)) ≤ d) (h2 : (a + b) ≤ c) : ((a + b) ≤ c) ∧ (c < (((d - e) - f) + (1 : Int))) := by lia
theorem z158 {a b : Nat} (h1 : a ≤ b) : (a + (b - a)) = b := by simp_all
theorem z159 {a b : Int} (h1 : (0 : Int) ≤ a) (h2 : a < b) : (Int.toNat a) < (Int.toNat (b - (0 : Int))) := by grind
theorem z160 {a : Int} {b : Nat} (h1 : ((-((b : Int) * (1000 : Int))) ≤ a) ∧ (a ≤ ((b : Int) * (1000 : Int)))) (h2 : b ≤ (100 : Nat)) : (Int.natAbs a) < ((2 : Nat) ^ (60 : Nat)) := by grind
theorem z161 {a : Int} {b : Nat} (h1 : ((4 : Int) ≤ a) ∧ (a ≤ (5 : Int))) (h2 : (b : Int) = a) : ((a - (1 : Int)) / (2 : Int)) < (b : Int) := by grind
theorem z162 {a b : Int} (h1 : a ≠ b) : ¬ (((2 : Int) * a) = ((2 : Int) * b)) := by simp_all +arith
theorem z163 {a : Int} {b : Nat} (h1 : ((4 : Int) ≤ a) ∧ (a ≤ (5 : Int))) (h2 : (b : Int) = a) : (0 : Int) ≤ ((a - (1 : Int)) / (2 : Int)) := by grind
theorem z164 {a : Nat} (h1 : ((a : Int) % (2 : Int)) = (1 : Int)) : (((a : Int) - (1 : Int)) % (2 : Int)) = (0 : Int) := by lia
theorem z165 {a b c d e : Int} (h1 : (a + b) ≤ c) (h2 : (c + e) ≤ d) : ((a + b) ≤ c) ∧ (c < ((d - e) + (1 : Int))) := by lia
theorem z166 {a b c : Int} (h1 : (a - c) = (b - c)) : a = b := by simp_all
theorem z167 {a b : Nat} (h1 : (0 : Nat) < a) (h2 : a < (64 : Nat)) (h3 : b = a) : (a / (2 : Nat)) < a := by lia
theorem z168 {a : Nat} {b : Int} (h1 : (a : Int) ≤ b) : a ≤ (Int.toNat b) := by grind
theorem z169 {a b : Int} (h1 : ((4 : Int) ≤ b) ∧ (b ≤ (5 : Int))) (h2 : a < b) : a < (((Int.toNat b) : Nat) : Int) := by lia
theorem z170 {a : Int} (h1 : ((0 : Int) ≤ a) ∧ (a ≤ (20 : Int))) : (Int.natAbs ((2 : Int) * a)) < ((2 : Nat) ^ (53 : Nat)) := by lia
theorem z171 {a b c : Nat} (h1 : (c + b) ≤ a) (h2 : c ≤ (2 : Nat)) (h3 : b ≤ (2 : Nat)) : (a - b) ≤ a := Nat.sub_le a b
theorem z172 {a : Nat} (h1 : a ≤ (2 : Nat)) : ((8 : Int) - (a : Int)) = ((((8 : Nat) - a) : Nat) : Int) := by lia
theorem z173 {a : Int} {b : Nat} (h1 : ((4 : Int) ≤ a) ∧ (a ≤ (5 : Int))) (h2 : (b : Int) = a) : (a / (2 : Int)) < (b : Int) := by grind
theorem z174 {a : Int} (h1 : ((0 : Int) ≤ a) ∧ (a ≤ (8 : Int))) : (Int.natAbs ((2 : Int) * a)) < ((2 : Nat) ^ (53 : Nat)) := by lia
theorem z175 {a b : Nat} (h1 : b ≤ (2 : Nat)) (h2 : a ≤ (2 : Nat)) : (4 : Nat) ≤ (((8 : Nat) - a) - b) := by lia
theorem z176 {a : Nat}  : (((a : Int) % (2 : Int)) = (0 : Int)) ∨ (((a : Int) % (2 : Int)) = (1 : Int)) := Int.emod_two_eq ↑a
theorem z177 {a : Int} {b : Nat} (h1 : ((4 : Int) ≤ a) ∧ (a ≤ (5 : Int))) (h2 : (b : Int) = a) : (0 : Int) ≤ (a / (2 : Int)) := by grind
theorem z178 {a : Nat} (h1 : (4 : Nat) ≤ a) : (1 : Nat) ≤ (a - (a - (1 : Nat))) := by grind
theorem z179 {a : Nat} (h1 : ((a : Int) % (2 : Int)) = (0 : Int)) : (((a : Int) - (1 : Int)) % (2 : Int)) = (1 : Int) := by lia
theorem z180 {a b c : Nat} (h1 : (a + b) ≤ ((8 : Nat) - c)) (h2 : c ≤ (2 : Nat)) : ((a : Int) + (b : Int)) ≤ ((8 : Int) - (c : Int)) := by grind
theorem z181 {a : Int} {b c : Nat} (h1 : (0 : Int) ≤ a) (h2 : a < (c : Int)) (h3 : b = c) : (Int.toNat a) < b := by simp_all
theorem z182 {a : Nat} (h1 : ((a : Int) % (2 : Int)) = (0 : Int)) : (((a : Int) + (1 : Int)) / (2 : Int)) = ((a : Int) / (2 : Int)) := by lia
theorem z183 {a b c : Int} (h1 : (a ≤ b) ∧ (b < c)) : (a + (((Int.toNat (b - a)) : Nat) : Int)) = b := by grind
theorem z184 {a b c : Nat} (h1 : a < (b + c)) (h2 : b ≤ a) : (a - b) < c := Nat.sub_lt_left_of_lt_add h2 h1
theorem z185 {a b c : Nat} {d : Int} {e : Nat} (h1 : (c : Int) = d) (h2 : (e : Int) = d) (h3 : b = c) (h4 : a = e) : a = b := by grind
theorem z186 {a : Nat} (h1 : ((a : Int) % (2 : Int)) = (0 : Int)) : ((((a : Int) - (1 : Int)) / (2 : Int)) + (1 : Int)) = ((a : Int) / (2 : Int)) := by omega
theorem z187 {a : Nat}  : (a - (0 : Nat)) = a := Nat.sub_zero a
theorem z188 {a b : Nat} (h1 : (0 : Int) ≤ (a : Int)) (h2 : (a : Int) ≤ (8 : Int)) (h3 : b = (a - (0 : Nat))) : a = b := by subst_vars; rfl
theorem z189 {a b c : Int} (h1 : ((1 : Int) + a) > (b - (1 : Int))) (h2 : a < b) (h3 : c = ((1 : Int) + a)) : a = (b - (1 : Int)) := by grind
theorem z190 {a b c d e : Nat} (h1 : (1 : Nat) ≤ c) (h2 : (e + (3 : Nat)) ≤ a) (h3 : d = (1 : Nat)) (h4 : b = (3 : Nat)) : ¬ ((a < b) ∨ (c < d)) := by lia
theorem z191 {a : Nat} {b : Int} (h1 : ((4 : Int) ≤ b) ∧ (b ≤ (5 : Int))) (h2 : a = (Int.toNat b)) : (a : Int) = b := by grind
theorem z192 {a : Int} {b c : Nat} (h1 : ((((b + (1 : Nat)) : Nat) : Int) * ((2 : Int) ^ (40 : Nat))) ≤ ((4096 : Int) * ((2 : Int) ^ (40 : Nat)))) (h2 : ((-((((b + (1 : Nat)) : Nat) : Int) * ((2 : Int) ^ (40 : Nat)))) ≤ a) ∧ (a ≤ ((((b + (1 : Nat)) : Nat) : Int) * ((2 : Int) ^ (40 : Nat))))) (h3 : b < c) : a < ((2 : Int) ^ (63 : Nat)) := by omega
theorem z193 {a b : Nat} (h1 : a ≤ (56 : Nat)) (h2 : b ≤ (8 : Nat)) : (a + b) ≤ (4096 : Nat) := by grind
theorem z194 {a : Int} (h1 : ((0 : Int) ≤ a) ∧ (a ≤ (8 : Int))) : (Int.natAbs a) < ((2 : Nat) ^ (60 : Nat)) := by lia
theorem z195 {a : Nat}  : ((4 : Int) ≤ ((4 : Int) + ((a : Int) % (2 : Int)))) ∧ (((4 : Int) + ((a : Int) % (2 : Int))) ≤ (5 : Int)) := by grind
theorem z197 {a : Int} {b : Nat} {c : Int} (h1 : b < (Int.toNat (c - a))) : (a ≤ (a + (b : Int))) ∧ ((a + (b : Int)) < c) := by lia
theorem z198 {a : Nat}  : (Int.toNat ((-(1 : Int)) + (((a + (1 : Nat)) : Nat) : Int))) = a := by simp +arith
theorem z199 {a b c : Int} (h1 : ((0 : Int) ≤ a) ∧ (a ≤ (8 : Int))) (h2 : ((0 : Int) ≤ b) ∧ (b ≤ (8 : Int))) (h3 : ((0 : Int) ≤ c) ∧ (c ≤ (8 : Int))) : (((a - b) - c) + (1 : Int)) ≤ ((2 : Int) ^ (40 : Nat)) := by grind
theorem z200 {a b c d : Nat} (h1 : (b - c) = (d + a)) (h2 : c ≤ b) : a ≤ b := by grind
theorem z201 {a b : Nat} (h1 : (0 : Nat) < a) (h2 : a < (64 : Nat)) (h3 : b = a) : (0 : Int) ≤ ((a : Int) / (2 : Int)) := Int.zero_le_ofNat (a / 2)
theorem z202 {a : Int} (h1 : ((4 : Int) ≤ a) ∧ (a ≤ (5 : Int))) : (0 : Int) ≤ ((a - (1 : Int)) / (2 : Int)) := by grind
theorem z203 {a b c : Nat} (h1 : (a + c) ≤ b) (h2 : a ≤ (2 : Nat)) : a ≤ (b - c) := Nat.le_sub_of_add_le h1
theorem z204 {a b c d e f : Int} (h1 : ((0 : Int) ≤ c) ∧ (c ≤ (8 : Int))) (h2 : ((0 : Int) ≤ b) ∧ (b ≤ (8 : Int))) (h3 : (c ≤ a) ∧ (a < ((d - ((b + e) + f)) + (1 : Int)))) : (-((2 : Int) ^ (40 : Nat))) ≤ (a + b) := by grind
theorem z205 {a : Int} (h1 : ((4 : Int) ≤ a) ∧ (a ≤ (5 : Int))) : ((a - (1 : Int)) / (2 : Int)) < a := by omega
theorem z206 {a b c d : Nat} (h1 : (a + b) ≤ d) (h2 : c = (8 : Nat)) (h3 : d ≤ (8 : Nat)) : (a + b) ≤ c := by lia
theorem z207 {a : Int} {b : Nat} (h1 : ((0 : Int) ≤ a) ∧ (a ≤ (8 : Int))) (h2 : b ≤ (56 : Nat)) : (-(4096 : Int)) ≤ (a - (b : Int)) := by lia
theorem z208 {a b c : Nat} (h1 : (b - a) = (c + (1 : Nat))) (h2 : a ≤ b) : a < b := Nat.lt_of_sub_eq_succ h1
theorem z209 {a b : Int} {c : Nat} (h1 : ((0 : Int) ≤ b) ∧ (b ≤ ((8 : Int) * (c : Int)))) (h2 : ((0 : Int) ≤ a) ∧ (a ≤ (8 : Int))) : ((0 : Int) ≤ (a + b)) ∧ ((a + b) ≤ ((8 : Int) * (((c + (1 : Nat)) : Nat) : Int))) := by grind
theorem z210 {a : Int} {b : Nat} (h1 : ((0 : Int) ≤ a) ∧ (a ≤ ((64 : Int) * (b : Int)))) (h2 : b ≤ (8 : Nat)) : a ≤ (512 : Int) := by grind
theorem z211 {a : Int} (h1 : a ≠ (0 : Int)) : ((2 : Int) * a) ≠ (0 : Int) := by simp_all
theorem z212 {a b c d e : Nat} (h1 : e ≤ ((b + (8 : Nat)) + d)) (h2 : a ≤ (e + c)) : a ≤ (b + (c + ((8 : Nat) + d))) := by lia
theorem z213 {a : Int} (h1 : ((4 : Int) ≤ a) ∧ (a ≤ (5 : Int))) : (0 : Int) ≤ (a / (2 : Int)) := by grind
theorem z214 {a b c : Nat} (h1 : (2 : Nat) ≤ a) (h2 : b = a) (h3 : c = a) (h4 : a ≤ (4096 : Nat)) : ¬ ((a : Int) < (2 : Int)) := by lia
theorem z215 {a : Int} (h1 : ((4 : Int) ≤ a) ∧ (a ≤ (5 : Int))) : (a / (2 : Int)) < a := by grind
theorem z216 {a b c d : Int} (h1 : (c + a) = (d + b)) (h2 : a ≤ b) (h3 : c ≤ d) : a = b := by lia
theorem z217 {a : Nat} (h1 : (4 : Nat) ≤ a) : (1 : Nat) ≤ (min (1 : Nat) (a - (3 : Nat))) := by grind
theorem z218 {a b c : Nat} (h1 : ((a + ((50 : Nat) * (c + (1 : Nat)))) + (50 : Nat)) < b) : ((a + (3 : Nat)) + (2 : Nat)) < b := by lia
theorem z219 {a b c d e f : Int} (h1 : (b + ((d + e) + f)) ≤ c) (h2 : a ≤ b) : (a ≤ b) ∧ (b < ((c - ((d + e) + f)) + (1 : Int))) := by lia
theorem z220 {a b c : Nat} (h1 : (a + c) ≤ ((8 : Nat) - b)) : a ≤ ((8 : Nat) - b) := Nat.le_of_add_right_le h1
theorem z221 {a : Nat} (h1 : a ≤ (100 : Nat)) : (Int.toNat ((a : Int) - (0 : Int))) = a := Nat.add_zero a
theorem z222 {a : Int} {b : Nat} (h1 : ((0 : Int) ≤ a) ∧ (a ≤ (8 : Int))) (h2 : b ≤ (56 : Nat)) : (a - (b : Int)) ≤ (4096 : Int) := by grind
theorem z224 {a b : Nat} (h1 : a ≤ (2 : Nat)) (h2 : b ≤ (2 : Nat)) : a ≤ ((8 : Nat) - b) := by lia
theorem z225 {a b c : Nat} (h1 : (2 : Nat) ≤ a) (h2 : b = a) (h3 : c = a) (h4 : a ≤ (4096 : Nat)) : ((a : Int) - (1 : Int)) ≠ (0 : Int) := by grind
theorem z226 {a b : Nat} (h1 : a ≤ (100 : Nat)) (h2 : b ≤ (100 : Nat)) : (min a b) ≤ (4096 : Nat) := by grind
theorem z227 {a b : Nat} (h1 : ((a : Int) % (2 : Int)) = (1 : Int)) (h2 : (0 : Nat) < a) (h3 : a < (64 : Nat)) (h4 : b = a) : (0 : Int) ≤ ((a : Int) / (2 : Int)) := Int.zero_le_ofNat (a / 2)
theorem z228 {a b c : Int} (h1 : a ≤ c) : (a - b) ≤ (c - b) := Int.sub_le_sub_right h1 b
theorem z229 {a : Nat} {b : Int} (h1 : ((4 : Int) ≤ b) ∧ (b ≤ (5 : Int))) (h2 : a = (Int.toNat b)) : a ≤ (4096 : Nat) := by grind
theorem z230 {a b c d : Int} (h1 : (a + c) = (b + d)) (h2 : c ≤ d) (h3 : a ≤ b) : a = b := by lia
theorem z231 {a b : Nat} (h1 : (b - a) = (0 : Nat)) (h2 : a ≤ b) : a = b := by grind
theorem z232 {a : Int} (h1 : ((4 : Int) ≤ a) ∧ (a ≤ (5 : Int))) : (0 : Nat) < (Int.toNat a) := by lia
theorem z233 {a b c d e f : Int} (h1 : ((0 : Int) ≤ b) ∧ (b ≤ (8 : Int))) (h2 : ((c + b) ≤ a) ∧ (a < (((d - e) - f) + (1 : Int)))) (h3 : (0 : Int) ≤ c) : (0 : Int) ≤ a := by grind
theorem z234 {a b c d : Nat} (h1 : ((a + ((50 : Nat) * d)) + (50 : Nat)) < c) (h2 : b ≤ d) : ((a + ((50 : Nat) * b)) + (50 : Nat)) < c := by lia
theorem z235 {a : Int} (h1 : ((0 : Int) ≤ a) ∧ (a ≤ (8 : Int))) : ((0 : Int) ≤ a) ∧ (a ≤ (1000 : Int)) := by lia
theorem z236 {a b c d : Int} (h1 : (0 : Int) ≤ a) (h2 : (b < (0 : Int)) ↔ (c < (0 : Int))) (h3 : d < (0 : Int)) (h4 : a ≠ (0 : Int)) (h5 : d ≠ (0 : Int)) : (0 : Int) < a := Std.lt_of_le_of_ne h1 (id (Ne.symm h4))
theorem z237 {a b c d : Int} (h1 : (0 : Int) ≤ a) (h2 : (0 : Int) ≤ b) (h3 : (c < (0 : Int)) ↔ (d < (0 : Int))) (h4 : a ≠ (0 : Int)) (h5 : b ≠ (0 : Int)) : (0 : Int) < a := Std.lt_of_le_of_ne h1 (id (Ne.symm h4))
theorem z238 {a b c d e f : Nat}  : ((((a + b) + c) + d) + e) ≤ (((((a + b) + c) + d) + e) + f) := Nat.le_add_right (a + b + c + d + e) f
theorem z239 {a b : Nat} (h1 : b ≤ a) : ((a : Int) - (b : Int)) = (((a - b) : Nat) : Int) := by grind
theorem z240 {a : Int} {b : Nat} (h1 : b = (4 : Nat)) : (Int.toNat (a % (4 : Int))) < b := by lia
theorem z241 {a b c d : Int} (h1 : (a + c) ≤ d) (h2 : d ≤ b) : a ≤ (b - c) := by lia
theorem z242 {a : Int} {b c : Nat} (h1 : ((1 : Int) ≤ a) ∧ (a ≤ ((b : Int) - (1 : Int)))) (h2 : c = b) : a < (b : Int) := by lia
theorem z243 {a : Int} {b c : Nat} (h1 : a < ((c : Int) - (1 : Int))) (h2 : b = c) : (a + (1 : Int)) < (b : Int) := by lia
theorem z244 {a : Int} (h1 : ((0 : Int) ≤ a) ∧ (a ≤ (8 : Int))) : ((0 : Int) ≤ ((2 : Int) * a)) ∧ (((2 : Int) * a) ≤ (16 : Int)) := by lia
theorem z245 {a : Int} {b c : Nat} (h1 : a < ((c : Int) - (1 : Int))) (h2 : b = c) : a < (b : Int) := by lia
theorem z246 {a b c : Nat} (h1 : (2 : Nat) ≤ a) (h2 : b = a) (h3 : c = a) (h4 : a ≤ (4096 : Nat)) : (a : Int) ≠ (0 : Int) := by grind
theorem z247 {a b c : Nat} (h1 : (2 : Nat) ≤ b) (h2 : c = b) (h3 : a = b) (h4 : b ≤ (4096 : Nat)) : (0 : Nat) < a := by grind
theorem z248 {a : Int} {b : Nat} (h1 : (0 : Int) ≤ a) (h2 : a < (3 : Int)) (h3 : b = (3 : Nat)) : a < (b : Int) := by simp_all
theorem z249 {a b c : Nat} (h1 : (a : Int) = (((min b c) : Nat) : Int)) : a = (min b c) := by omega
theorem z250 {a : Int} (h1 : (0 : Int) ≤ a) : (max a (0 : Int)) = a := Int.max_eq_left h1
theorem z251 {a b c : Nat} (h1 : (a + b) ≤ c) : ((a : Int) + (b : Int)) ≤ (c : Int) := (fun {m} {n} => Iff.mp Int.toNat_le) h1
theorem z252 {a b c : Nat} (h1 : a ≤ b) (h2 : b ≤ c) : (a + (b - a)) ≤ c := by simp_all
theorem z253 {a b : Nat} (h1 : b = (8 : Nat)) (h2 : a ≤ (2 : Nat)) : ((8 : Nat) - a) ≤ b := by simp_all
theorem z254 {a b c d e : Nat} (h1 : ((a + b) + d) ≤ e) (h2 : e ≤ c) : (a + b) ≤ c := by lia
theorem z255 {a : Int} {b c : Nat} (h1 : ((1 : Int) ≤ a) ∧ (a ≤ ((c : Int) - (1 : Int)))) (h2 : b = c) : (a - (1 : Int)) < (b : Int) := by lia
theorem z257 {a : Int} (h1 : (-(4096 : Int)) ≤ a) (h2 : a ≤ (4096 : Int)) : ((Int.toNat a) * (1 : Nat)) ≤ (4096 : Nat) := by simp_all
theorem z258 {a : Nat} (h1 : a ≤ (2 : Nat)) : ((8 : Nat) - a) ≤ (8 : Nat) := Nat.sub_le 8 a
theorem z259 {a b c d e f : Int} (h1 : ((e + f) ≤ a) ∧ (a < (((d - b) - c) + (1 : Int)))) : (a + (b + c)) ≤ d := by lia
theorem z260 {a b : Int} (h1 : b ≤ a) : ¬ (((2 : Int) * a) < ((2 : Int) * b)) := by simp_all
theorem z261 {a : Int} (h1 : (-(4096 : Int)) ≤ a) (h2 : a < (1 : Int)) (h3 : a ≤ (4096 : Int)) : (Int.toNat a) = (0 : Nat) := by simp_all +arith
theorem z262 {a : Int} {b : Nat} {c : Int} (h1 : b < (Int.toNat (c - a))) : (a + (b : Int)) < c := by lia
theorem z264 {a : Nat} (h1 : (2 : Nat) ≤ a) : ¬ ((((a : Int) + (1 : Int)) / (2 : Int)) > ((a : Int) - (1 : Int))) := by lia
theorem z265 {a b : Nat} (h1 : (2 : Nat) ≤ a) (h2 : a < (64 : Nat)) (h3 : b = a) : ((1 : Int) ≤ ((a : Int) - (1 : Int))) ∧ (((a : Int) - (1 : Int)) ≤ ((a : Int) - (1 : Int))) := by lia
theorem z266 {a b : Int}  : (Int.natAbs (a - ((b + a) - b))) < ((2 : Nat) ^ (53 : Nat)) := by simp +arith
theorem z267 {a b : Nat} (h1 : (a + (1 : Nat)) ≤ (1100 : Nat)) (h2 : b < ((2 : Nat) ^ (53 : Nat))) (h3 : ¬ (b < ((2 : Nat) ^ (52 : Nat)))) : (((a + (1 : Nat)) * ((2 : Nat) ^ (52 : Nat))) + b) < ((2047 : Nat) * ((2 : Nat) ^ (52 : Nat))) := by lia
theorem z268 {a : Nat} {b : Int} (h1 : ((4 : Int) ≤ b) ∧ (b ≤ (5 : Int))) (h2 : a = (Int.toNat b)) : a ≤ (5 : Nat) := by simp_all
theorem z269 {a b c : Nat} (h1 : ((a + ((50 : Nat) * (b + (1 : Nat)))) + (50 : Nat)) < c) : (((a + (3 : Nat)) + ((50 : Nat) * b)) + (50 : Nat)) < c := by lia
theorem z270 {a b c : Nat} (h1 : (a + (c + (1 : Nat))) < b) : a < b := Nat.lt_of_add_right_lt h1
theorem z271 {a : Nat} (h1 : ((a : Int) % (2 : Int)) = (0 : Int)) : (((a : Int) + (1 : Int)) - (((a : Int) / (2 : Int)) * (2 : Int))) = (1 : Int) := by grind
theorem z272 {a : Int} (h1 : ((0 : Int) ≤ a) ∧ (a ≤ (8 : Int))) : (Int.natAbs a) ≤ (8 : Nat) := by lia
theorem z273 {a b c d e f : Int} (h1 : ((0 : Int) ≤ b) ∧ (b ≤ (8 : Int))) (h2 : (b ≤ a) ∧ (a < ((c - ((d + e) + f)) + (1 : Int)))) : (0 : Int) ≤ a := by lia
theorem z274 {a b c : Nat} (h1 : ((a + ((50 : Nat) * (b + (1 : Nat)))) + (50 : Nat)) < c) : (((a + (1 : Nat)) + ((50 : Nat) * b)) + (50 : Nat)) < c := by lia
theorem z275 {a : Int} {b : Nat} (h1 : (Int.toNat a) < b) (h2 : b ≤ (4096 : Nat)) : a < ((2 : Int) ^ (63 : Nat)) := by lia
theorem z276 {a b c : Nat} (h1 : b = a) (h2 : c = a) : (0 : Nat) ≤ a := Nat.zero_le a
theorem z277 {a b c : Int} (h1 : (0 : Int) < b) (h2 : (a < (0 : Int)) ↔ (b < (0 : Int))) (h3 : b = c) : (0 : Int) ≤ a := by lia
theorem z278 {a b : Nat} (h1 : (2 : Nat) ≤ a) (h2 : a < (64 : Nat)) (h3 : b = a) : ((1 : Int) ≤ (1 : Int)) ∧ ((1 : Int) ≤ ((a : Int) - (1 : Int))) := by lia
theorem z279 {a : Nat} {b : Int} (h1 : ((1 : Int) + (a : Int)) < b) (h2 : (1 : Int) ≤ b) (h3 : b ≤ (64 : Int)) : a ≤ (4095 : Nat) := by lia
theorem z280 {a b c : Int} (h1 : a < c) (h2 : c ≤ b) : a < b := Int.lt_of_lt_of_le h1 h2
theorem z281 {a b : Nat}  : a ≤ (b + (a - b)) := by grind
theorem z282 {a b : Nat} (h1 : a ≤ (100 : Nat)) (h2 : b ≤ (100 : Nat)) : (min a b) ≤ (100 : Nat) := by grind
theorem z283 {a b : Int} (h1 : b < a) : (a - b) = (((Int.toNat (a - b)) : Nat) : Int) := by grind
theorem z284 {a : Int} {b : Nat} (h1 : (b * ((2 : Nat) ^ (40 : Nat))) ≤ ((4096 : Nat) * ((2 : Nat) ^ (40 : Nat)))) (h2 : (Int.natAbs a) ≤ (b * ((2 : Nat) ^ (40 : Nat)))) : (Int.natAbs a) < ((2 : Nat) ^ (53 : Nat)) := by lia
theorem z285 {a b : Int} (h1 : ((0 : Int) ≤ a) ∧ (a ≤ (8 : Int))) (h2 : ((0 : Int) ≤ b) ∧ (b ≤ (8 : Int))) : ((a - b) + (1 : Int)) ≤ ((2 : Int) ^ (40 : Nat)) := by lia
theorem z286 {a : Int} {b : Nat} {c : Int} (h1 : ((4 : Int) ≤ c) ∧ (c ≤ (5 : Int))) (h2 : a < c) (h3 : b = (5 : Nat)) : a < (b : Int) := by lia
theorem z287 {a b : Nat} (h1 : b = (5 : Nat)) : ((a : Int) % (5 : Int)) < (b : Int) := by grind
theorem z288 {a b c : Int} (h1 : c < b) (h2 : ¬ (c < a)) : a < b := by lia
theorem z289 {a : Nat} (h1 : a ≤ (100 : Nat)) : (Int.natAbs (a : Int)) < ((2 : Nat) ^ (60 : Nat)) := by decide +revert
theorem z290 {a b c d e f : Int} (h1 : (f ≤ a) ∧ (a < ((e - ((b + c) + d)) + (1 : Int)))) : (a + ((b + c) + d)) ≤ e := by lia
theorem z291 {a b c d : Nat} (h1 : c = d) (h2 : a = d) (h3 : d ≤ b) : a ≤ b := le_of_eq_of_le h2 h3
theorem z294 {a b c : Int} (h1 : (a < (0 : Int)) ↔ (b < (0 : Int))) (h2 : b < (0 : Int)) (h3 : b = c) : a < (0 : Int) := by simp_all
theorem z295 {a b : Nat} (h1 : ¬ (b ≤ a)) : (a - b) = (0 : Nat) := by grind
theorem z296 {a : Int} {b c : Nat} (h1 : ((-((2 : Int) ^ (40 : Nat))) ≤ a) ∧ (a ≤ ((2 : Int) ^ (40 : Nat)))) (h2 : b < c) : (-((2 : Int) ^ (63 : Nat))) ≤ a := by lia
theorem z297 {a b c d e : Int} (h1 : ((d + e) ≤ a) ∧ (a < ((c - b) + (1 : Int)))) : (a + b) ≤ c := by lia
theorem z298 {a : Int} {b : Nat} (h1 : ((0 : Int) ≤ a) ∧ (a < (3 : Int))) (h2 : b = (3 : Nat)) : a < (b : Int) := by simp_all
theorem z299 {a b c d : Nat} (h1 : ((a + b) + d) ≤ c) : (a + b) ≤ c := Nat.le_of_add_right_le h1
theorem z300 {a b c : Int}  : (a + (b + c)) = (b + (a + c)) := Int.add_left_comm a b c
theorem z301 {a b c d e : Nat} (h1 : ((a + b) + c) ≤ e) (h2 : e ≤ d) : ((a + b) + c) ≤ d := Nat.le_trans h1 h2
theorem z302 {a b c : Int} (h1 : a ≤ (c - b)) : (a + b) ≤ c := Int.add_le_of_le_sub_right h1
theorem z303 {a : Nat} (h1 : a ≤ (2 : Nat)) : ((0 : Int) ≤ (a : Int)) ∧ ((a : Int) ≤ (8 : Int)) := by decide +revert
theorem z304 {a b : Int}  : ((a + b) - a) = b := (fun {b a c} => Iff.mpr Int.sub_eq_iff_eq_add') rfl
theorem z305 {a b c d : Nat} (h1 : a ≤ d) (h2 : b ≤ c) : (a + b) ≤ (c + d) := by lia
theorem z306 {a b c : Nat} (h1 : a = b) : a ≤ (b + c) := Nat.le.intro (congrFun (congrArg HAdd.hAdd h1) c)
theorem z307 {a : Int} (h1 : ((0 : Int) ≤ a) ∧ (a ≤ (7 : Int))) : ((0 : Int) ≤ a) ∧ (a ≤ (8 : Int)) := by lia
theorem z308 {a b : Nat} {c : Int} (h1 : (a : Int) = c) (h2 : (b : Int) = c) : a = b := by grind
theorem z309 {a : Nat} (h1 : (2 : Nat) ≤ a) : ¬ ((((a : Int) + (1 : Int)) / (2 : Int)) < (1 : Int)) := by lia
theorem z310 {a b : Nat} (h1 : (2 : Nat) ≤ a) (h2 : a < (64 : Nat)) (h3 : b = a) : (0 : Int) ≤ ((a : Int) - (1 : Int)) := by grind
theorem z311 {a b c d : Int}  : ((a + b) + (c + d)) = ((a + c) + (b + d)) := by simp +arith
theorem z312 {a : Int} (h1 : ((0 : Int) ≤ a) ∧ (a ≤ (16 : Int))) : (Int.natAbs a) ≤ (16 : Nat) := by lia
theorem z313 {a b : Int} (h1 : ¬ (b < a)) : (0 : Int) = (((Int.toNat (a - b)) : Nat) : Int) := by grind
theorem z314 {a : Int} (h1 : ((4 : Int) ≤ a) ∧ (a ≤ (5 : Int))) : (Int.toNat (a - (0 : Int))) ≤ (4096 : Nat) := by lia
theorem z315 {a : Int} (h1 : ((4 : Int) ≤ a) ∧ (a ≤ (5 : Int))) : (Int.toNat (a - (0 : Int))) ≤ (5 : Nat) := by simp_all
theorem z316 {a b c : Nat}  : (a + (b + c)) = ((a + b) + c) := Eq.symm (Nat.add_assoc a b c)
theorem z317 {a b : Nat} (h1 : (2 : Nat) ≤ a) (h2 : a < (64 : Nat)) (h3 : b = a) : (0 : Int) ≤ ((a : Int) + (1 : Int)) := Int.zero_le_ofNat (a + 1)
theorem z318 {a : Int} (h1 : (0 : Int) ≤ a) : (0 : Int) ≤ (a + (1 : Int)) := Int.le_add_one h1
theorem z319 {a b : Nat} (h1 : (2 : Nat) ≤ a) (h2 : a < (64 : Nat)) (h3 : b = a) : (0 : Int) < ((a : Int) - (1 : Int)) := by lia
theorem z320 {a b : Int} {c d : Nat} {e : Int} (h1 : c < d) (h2 : e ≤ a) (h3 : ¬ (e ≤ b)) : ¬ (a ≤ b) := by lia
theorem z321 {a : Nat} (h1 : a ≤ (100 : Nat)) : (min (8 : Nat) a) ≤ (4088 : Nat) := by decide +revert
theorem z322 {a : Nat} (h1 : a ≤ (100 : Nat)) : (min (8 : Nat) a) ≤ (4096 : Nat) := by decide +revert
theorem z323 {a : Nat}  : a ≤ ((2 : Nat) + (a - (1 : Nat))) := by grind
theorem z324 {a : Nat}  : (((a + (1 : Nat)) : Nat) : Int) = ((a : Int) + (1 : Int)) := by subst_vars; rfl
theorem z325 {a : Int} {b : Nat} (h1 : ((1 : Int) ≤ a) ∧ (a ≤ ((b : Int) - (1 : Int)))) : (0 : Int) ≤ (a - (1 : Int)) := by simp_all
theorem z326 {a : Int} {b : Nat} (h1 : ((1 : Int) ≤ a) ∧ (a ≤ ((b : Int) - (1 : Int)))) : (0 : Int) ≤ a := by lia
theorem z327 {a b : Nat} (h1 : a < b) (h2 : b ≤ (4096 : Nat)) : (((a + (1 : Nat)) : Nat) : Int) ≤ (4096 : Int) := by lia
theorem z328 {a b c d : Nat}  : ((a + b) + c) ≤ (((a + b) + c) + d) := Nat.le_add_right (a + b + c) d
theorem z329 {a : Int} (h1 : ((4 : Int) ≤ a) ∧ (a ≤ (5 : Int))) : (a = (4 : Int)) ∨ (a = (5 : Int)) := by grind
theorem z330 {a b c : Int} (h1 : (0 : Int) ≤ a) (h2 : (b < (0 : Int)) ↔ (c < (0 : Int))) (h3 : a ≠ (0 : Int)) : (0 : Int) < a := Std.lt_of_le_of_ne h1 (id (Ne.symm h3))
theorem z331 {a : Nat}  : (min (8 : Nat) a) ≤ (4096 : Nat) := by lia
theorem z332 {a b : Int} (h1 : ((4 : Int) ≤ b) ∧ (b ≤ (5 : Int))) (h2 : a < b) : a < (5 : Int) := by lia
theorem z333 {a : Int} (h1 : ((0 : Int) ≤ a) ∧ (a ≤ (1000000 : Int))) : (-((2 : Int) ^ (40 : Nat))) ≤ a := by lia
theorem z334 {a b : Nat} (h1 : (min a b) = a) : ((0 : Nat) + a) ≤ b := by lia
theorem z335 {a b : Nat} (h1 : a ≤ (2 : Nat)) (h2 : b ≤ (2 : Nat)) : ((a + (3 : Nat)) + b) ≤ (4096 : Nat) := by grind
theorem z336 {a : Int} (h1 : a < (0 : Int)) : (-(((Int.natAbs a) : Nat) : Int)) = a := by grind
theorem z337 {a : Nat} (h1 : a ≤ (2 : Nat)) : ((0 : Int) ≤ ((8 : Int) - (a : Int))) ∧ (((8 : Int) - (a : Int)) ≤ (8 : Int)) := by decide +revert
theorem z338 {a b c d : Int} (h1 : b ≤ d) (h2 : a ≤ c) : (a + b) ≤ (c + d) := Int.add_le_add h2 h1
theorem z339 {a : Int} (h1 : ((0 : Int) ≤ a) ∧ (a ≤ (1000 : Int))) : (-((2 : Int) ^ (40 : Nat))) ≤ a := by lia
theorem z340 {a : Nat}  : ((a : Int) % (5 : Int)) < (((5 : Nat) : Nat) : Int) := by grind
theorem z341 {a b c d : Nat} (h1 : (a + d) < c) (h2 : b ≤ d) : (a + b) < c := by lia
theorem z342 {a : Nat}  : (0 : Int) ≤ ((4 : Int) + ((a : Int) % (2 : Int))) := Int.zero_le_ofNat (4 + a % Int.natAbs 2)
theorem z343 {a b c : Int}  : (((a + b) - c) + (c + (2148 : Int))) = ((a + (1074 : Int)) + (b + (1074 : Int))) := by simp +arith
theorem z344 {a b c d e : Int} (h1 : ((a + b) ≤ c) ∧ (c < ((d - e) + (1 : Int)))) : (a + b) ≤ c := by simp_all
theorem z345 {a : Int} (h1 : ((0 : Int) ≤ a) ∧ (a ≤ (20 : Int))) : (Int.natAbs a) ≤ (20 : Nat) := by lia
theorem z346 {a : Int} {b c : Nat} (h1 : ((-((2 : Int) ^ (40 : Nat))) ≤ a) ∧ (a ≤ ((2 : Int) ^ (40 : Nat)))) (h2 : b < c) : a < ((2 : Int) ^ (63 : Nat)) := by omega
theorem z347 {a : Int} {b : Nat} (h1 : (0 : Int) ≤ a) (h2 : a < (b : Int)) (h3 : b ≤ (4096 : Nat)) : ((-(9223372036854775808 : Int)) ≤ a) ∧ (a < (9223372036854775808 : Int)) := by lia
theorem z348 {a : Int} (h1 : ¬ (a < (0 : Int))) : (((Int.natAbs a) : Nat) : Int) = a := by grind
theorem z349 {a : Int} (h1 : (0 : Int) < a) (h2 : a < (1073741824 : Int)) : (Int.natAbs a) < (1073741824 : Nat) := by grind
theorem z350 {a b c : Nat} (h1 : ¬ (c ≤ (a + b))) : (a + b) < c := Nat.lt_of_not_le h1
theorem z352 {a b : Int} (h1 : (0 : Int) < (a * ((2 : Int) ^ (1073 : Nat)))) (h2 : b = (a * ((2 : Int) ^ (1073 : Nat)))) (h3 : b ≤ (0 : Int)) : a < (0 : Int) := by grind
theorem z353 {a : Int} (h1 : ((2 : Int) * (0 : Int)) = a) : a = (0 : Int) := by subst_vars; rfl
theorem z354 {a b : Nat}  : a ≤ (a + b) := Nat.le_add_right a b
theorem z355 {a : Nat} (h1 : a < ((2 : Nat) ^ (53 : Nat))) : ((2 : Nat) * a) < (((2 : Nat) ^ (54 : Nat)) - (1 : Nat)) := by grind
theorem z356 {a b : Int} (h1 : (0 : Int) ≤ a) (h2 : b < (0 : Int)) (h3 : a = (b * ((2 : Int) ^ (1073 : Nat)))) : False := by lia
theorem z357 {a : Int}  : (0 : Int) ≤ (a % (4 : Int)) := by lia
theorem z358 {a : Nat}  : (min (60 : Nat) a) ≤ (4096 : Nat) := by lia
theorem z359 {a b c : Nat} (h1 : (a + (3 : Nat)) ≤ c) (h2 : b = (3 : Nat)) : (a + b) ≤ c := le_of_eq_of_le (congrArg (HAdd.hAdd a) h2) h1
theorem z360 {a b : Nat} (h1 : (min a b) = a) : a ≤ b := by lia
theorem z361 {a b : Nat} (h1 : b = a) (h2 : a ≤ (100 : Nat)) : (-((2 : Int) ^ (40 : Nat))) ≤ (a : Int) := Int.neg_ofNat_le_natCast (2 ^ 40) a
theorem z362 {a b : Nat} (h1 : (2 : Nat) ≤ a) (h2 : a < (64 : Nat)) (h3 : b = a) : ¬ ((a : Int) < (2 : Int)) := by lia
theorem z363 {a b : Int} (h1 : (0 : Int) ≤ a) (h2 : b = ((1 : Int) + a)) : ¬ (((1 : Int) + a) < (1 : Int)) := by lia
theorem z364 {a b : Int}  : ((a + b) - b) = a := Int.add_sub_cancel a b
theorem z365 {a b c : Nat} (h1 : (a + (b + (1 : Nat))) < c) : ((a + (1 : Nat)) + b) < c := by simp_all +arith
theorem z366 {a b c d e f : Int} (h1 : ((a + b) ≤ c) ∧ (c < (((d - e) - f) + (1 : Int)))) : (a + b) ≤ c := by simp_all
theorem z367 {a : Int} (h1 : (Int.natAbs a) ≤ ((2 : Nat) ^ (41 : Nat))) : (Int.natAbs a) < ((2 : Nat) ^ (53 : Nat)) := by lia
theorem z368 {a : Int} (h1 : ((0 : Int) ≤ a) ∧ (a ≤ (8 : Int))) : ((-((2 : Int) ^ (20 : Nat))) ≤ a) ∧ (a ≤ ((2 : Int) ^ (20 : Nat))) := by lia
theorem z369 {a : Int} (h1 : ((4 : Int) ≤ a) ∧ (a ≤ (5 : Int))) : ((-((2 : Int) ^ (40 : Nat))) ≤ a) ∧ (a ≤ ((2 : Int) ^ (40 : Nat))) := by lia
theorem z370 {a : Nat}  : (0 : Int) ≤ ((a : Int) % (5 : Int)) := Int.zero_le_ofNat (a % Int.natAbs 5)
theorem z371 {a b c : Int}  : (a + (b + c)) = ((a + b) + c) := Eq.symm (Int.add_assoc a b c)
theorem z372 {a b c : Int} (h1 : c ≤ a) (h2 : ¬ (c ≤ b)) : ¬ (a ≤ b) := by lia
theorem z373 {a b : Nat} (h1 : ((a : Int) - (b : Int)) = (((a - b) : Nat) : Int)) : (a - b) ≤ a := Nat.sub_le a b
theorem z374 {a : Nat} (h1 : ((1 : Int) + (a : Int)) < (2 : Int)) : a = (0 : Nat) := by simp_all +arith
theorem z375 {a b : Int}  : (a - ((b + a) - b)) = (0 : Int) := by simp +arith
theorem z376 {a : Int}  : (a < (0 : Int)) ↔ (((2 : Int) * a) < (0 : Int)) := by simp +arith
theorem z377 {a : Int} (h1 : (0 : Int) ≤ a) (h2 : a ≠ (0 : Int)) : (0 : Int) < a := Std.lt_of_le_of_ne h1 (id (Ne.symm h2))
theorem z378 {a : Nat}  : (min (1 : Nat) (a - (3 : Nat))) ≤ (2 : Nat) := by grind
theorem z379 {a : Int} (h1 : ((0 : Int) ≤ a) ∧ (a ≤ (1000000 : Int))) : (-(1000000 : Int)) ≤ a := by lia
theorem z380 {a b : Nat} (h1 : (0 : Int) ≤ (a : Int)) (h2 : (a : Int) ≤ (8 : Int)) (h3 : b = (8 : Nat)) : a ≤ b := by lia
theorem z381 {a : Nat}  : (min (1 : Nat) (a - (2 : Nat))) ≤ (2 : Nat) := by grind
theorem z382 {a : Int} (h1 : ((0 : Int) ≤ a) ∧ (a < (9 : Int))) : (0 : Int) ≤ a := by simp_all
theorem z383 {a b c : Nat}  : (a + b) ≤ ((a + b) + c) := Nat.le_add_right (a + b) c
theorem z384 {a : Nat} (h1 : a ≤ (2 : Nat)) : (0 : Int) ≤ (a : Int) := Int.natCast_nonneg a
theorem z385 {a : Int} (h1 : (-(4096 : Int)) ≤ a) (h2 : a ≤ (4096 : Int)) (h3 : ¬ (a < (1 : Int))) : ((1 : Int) * a) ≤ (((2 : Int) ^ (63 : Nat)) - (1 : Int)) := by lia
theorem z386 {a b : Nat} (h1 : (a : Int) = (b : Int)) : a = b := by grind
theorem z387 {a : Nat} (h1 : (0 : Nat) < a) : (a : Int) ≠ (0 : Int) := by grind
theorem z388 {a b : Int}  : (((a - b) - b) + b) = (a - b) := Int.sub_add_cancel (a - b) b
theorem z389 {a : Nat} (h1 : (0 : Nat) < a) (h2 : a ≤ (729 : Nat)) : (a : Int) < (1073741824 : Int) := by lia
theorem z390 {a : Int} (h1 : ((0 : Int) ≤ a) ∧ (a ≤ (1000000 : Int))) : a ≤ ((2 : Int) ^ (40 : Nat)) := by lia
theorem z391 {a : Nat}  : (min (60 : Nat) a) ≤ (60 : Nat) := Nat.min_le_left 60 a
theorem z392 {a : Nat}  : (min (1 : Nat) a) ≤ (2 : Nat) := by grind
theorem z393 {a : Nat}  : (min (2 : Nat) a) ≤ (2 : Nat) := Nat.min_le_left 2 a
theorem z394 {a : Nat} (h1 : a ≤ (729 : Nat)) : a ≤ (4077 : Nat) := by lia
theorem z395 {a : Nat} (h1 : a ≤ (729 : Nat)) : a ≤ (4087 : Nat) := by lia
theorem z396 {a : Nat} (h1 : a ≤ (729 : Nat)) : a ≤ (4078 : Nat) := by lia
theorem z397 {a : Nat} (h1 : a = (97 : Nat)) : (a = (97 : Nat)) ∨ (a = (98 : Nat)) := Or.symm (Or.inr h1)
theorem z398 {a : Nat} (h1 : a < ((2 : Nat) ^ (52 : Nat))) (h2 : a < ((2 : Nat) ^ (53 : Nat))) : ((2 : Nat) * a) < ((2 : Nat) ^ (53 : Nat)) := by grind
theorem z399 {a : Int} {b : Nat} (h1 : (0 : Int) ≤ (a + (b : Int))) (h2 : b ≤ (4096 : Nat)) : (-((2 : Int) ^ (63 : Nat))) ≤ a := by grind
theorem z400 {a : Int} (h1 : ((0 : Int) ≤ a) ∧ (a ≤ (7 : Int))) : ((0 : Int) ≤ a) ∧ (a < (8 : Int)) := by lia
theorem z401 {a b c : Nat} (h1 : a ≤ b) : a ≤ (b + c) := Nat.le_add_right_of_le h1
theorem z402 {a : Int} (h1 : ((0 : Int) ≤ a) ∧ (a ≤ (1000 : Int))) : a ≤ ((2 : Int) ^ (40 : Nat)) := by lia
theorem z403 {a b c : Nat} (h1 : (a + (b + (1 : Nat))) ≤ c) : (a + b) ≤ c := Nat.le_of_succ_le h1
theorem z404 {a : Int} (h1 : ((0 : Int) ≤ a) ∧ (a < (9 : Int))) : a ≤ (8 : Int) := by lia
theorem z405 {a : Nat} (h1 : a ≤ (2 : Nat)) : a ≤ (8 : Nat) := by decide +revert
theorem z406 {a b c : Nat} (h1 : (a + (b + (1 : Nat))) < c) : (a + b) < c := Nat.lt_of_succ_lt h1
theorem z407 {a b : Int}  : ((a - b) + (b + (2148 : Int))) = ((a + (1074 : Int)) + (1074 : Int)) := by simp +arith
theorem z408 {a : Nat} (h1 : (0 : Nat) < a) (h2 : a ≤ (729 : Nat)) : (0 : Int) < (a : Int) := by grind
theorem z409 {a b c : Nat} (h1 : c < b) (h2 : a ≤ c) : a ≤ b := by lia
theorem z410 {a b c : Nat} (h1 : (a + c) < b) : a < b := Nat.lt_of_add_right_lt h1
theorem z411 {a : Nat} {b : Int} (h1 : ((4 : Int) ≤ b) ∧ (b ≤ (5 : Int))) (h2 : (a : Int) = b) : a ≤ (5 : Nat) := by lia
theorem z412 {a b : Nat} (h1 : a < b) : (a + (1 : Nat)) ≤ b := Nat.succ_le_of_lt h1
theorem z414 {a : Int} (h1 : (-(4096 : Int)) ≤ a) (h2 : a ≤ (4096 : Int)) : ((-(9223372036854775808 : Int)) ≤ a) ∧ (a < (9223372036854775808 : Int)) := by lia
theorem z415 {a : Int} (h1 : (0 : Int) < a) : (0 : Int) ≤ a := Int.le_of_lt h1
theorem z416 {a b : Nat} (h1 : (0 : Nat) < a) (h2 : a < (64 : Nat)) (h3 : b = a) : ¬ ((a : Int) = (0 : Int)) := by grind
theorem z417 {a : Int} {b : Nat} (h1 : a < (b : Int)) (h2 : b ≤ (4096 : Nat)) : a < ((2 : Int) ^ (63 : Nat)) := by lia
theorem z418 {a b : Nat} (h1 : b = a) (h2 : a ≤ (100 : Nat)) : (a : Int) ≤ ((2 : Int) ^ (40 : Nat)) := by lia
theorem z419 {a : Int} (h1 : (0 : Int) ≤ a) (h2 : a ≤ (4096 : Int)) : ((-(9223372036854775808 : Int)) ≤ a) ∧ (a < (9223372036854775808 : Int)) := by lia
theorem z420 {a b c : Nat} (h1 : (a + (b + (1 : Nat))) ≤ c) : (a + b) < c := Nat.lt_of_succ_le h1
theorem z421 {a b : Nat} (h1 : b = (8 : Nat)) (h2 : a ≤ (2 : Nat)) : a ≤ b := by lia
theorem z422 {a : Nat} (h1 : a ≤ (729 : Nat)) : a ≤ (4096 : Nat) := by lia
theorem z423 {a : Int} (h1 : (1 : Int) ≤ a) (h2 : a ≤ (64 : Int)) : (-((2 : Int) ^ (40 : Nat))) ≤ a := by lia
theorem z424 {a : Int} (h1 : a ≤ ((8 : Int) * (7 : Int))) : a ≤ (56 : Int) := by simp_all
theorem z425 {a : Nat} (h1 : a ≤ (60 : Nat)) : a ≤ (100 : Nat) := by decide +revert
theorem z426 {a : Nat}  : ((1 : Int) + (a : Int)) = ((a : Int) + (1 : Int)) := Int.add_comm 1 ↑a
theorem z427 {a b : Nat}  : ((a : Int) + (b : Int)) = (((a + b) : Nat) : Int) := by subst_vars; rfl
theorem z429 {a : Nat}  : (0 : Int) ≤ ((1 : Int) + (a : Int)) := Int.zero_le_ofNat (1 + a)
theorem z430 {a b : Nat} (h1 : a < (2 : Nat)) (h2 : b = a) : (a : Int) < (2 : Int) := (fun {m} {n} => Iff.mp Int.lt_toNat) h1
theorem z431 {a b : Nat} (h1 : a = (0 : Nat)) : a ≤ b := by simp_all
theorem z432 {a : Int} (h1 : (1 : Int) ≤ a) (h2 : a ≤ (64 : Int)) : (0 : Int) ≤ a := Int.le_of_lt h1
theorem z433 {a b : Nat} (h1 : a = b) : (a : Int) = (b : Int) := by grind
theorem z434 {a b : Nat} (h1 : a ≠ b) : ¬ ((a : Int) = (b : Int)) := Nat.ToInt.of_diseq rfl rfl h1
theorem z435 {a b : Nat}  : (a + b) = (b + a) := Nat.add_comm a b
theorem z436 {a b c : Nat}  : ((a - b) - c) = (a - (b + c)) := Nat.sub_sub a b c
theorem z437 {a : Nat} (h1 : a ≤ (2 : Nat)) : ((8 : Int) - (a : Int)) ≤ (8 : Int) := by decide +revert
theorem z438 {a b c : Int}  : (a ≤ b) → ((b ≤ c) → (a ≤ c)) := by lia
theorem z439 {a : Int} (h1 : (1 : Int) ≤ a) (h2 : a ≤ (64 : Int)) : a < (1073741824 : Int) := by lia
theorem z440 {a : Int} (h1 : (1 : Int) ≤ a) : ¬ ((((1 : Nat) : Nat) : Int) > a) := Int.not_lt_of_ge h1
theorem z441 {a : Nat} (h1 : a ≤ (4096 : Nat)) : ¬ (a > ((((2 : Nat) ^ (63 : Nat)) - (1 : Nat)) / (8 : Nat))) := by lia
theorem z442 {a : Nat} (h1 : a < ((2 : Nat) ^ (53 : Nat))) (h2 : ¬ (a < ((2 : Nat) ^ (52 : Nat)))) : ((2 : Nat) ^ (52 : Nat)) ≤ a := Nat.le_of_not_lt h2
theorem z443 {a : Nat} (h1 : a < (60 : Nat)) : (a + (1 : Nat)) ≤ (64 : Nat) := by decide +revert
theorem z444 {a : Nat} (h1 : a < ((2 : Nat) ^ (53 : Nat))) (h2 : ¬ (a < ((2 : Nat) ^ (52 : Nat)))) : a ≤ ((2 : Nat) ^ (53 : Nat)) := Nat.le_of_succ_le h1
theorem z445 {a : Int} (h1 : ((0 : Int) ≤ a) ∧ (a ≤ (1000 : Int))) : (-(1000 : Int)) ≤ a := by lia
theorem z446 {a : Int}  : (((1 : Int) + (a - (1 : Int))) - (a - (1 : Int))) = (1 : Int) := Int.add_sub_cancel 1 (a - 1)
theorem z447 {a : Nat} (h1 : (2 : Nat) ≤ a) (h2 : a ≤ (8 : Nat)) : (1 : Int) ≤ ((a : Int) + (1 : Int)) := by simp +arith
theorem z448 {a : Int} (h1 : (1 : Int) ≤ a) (h2 : a ≤ (64 : Int)) : (0 : Int) < a := Int.lt_of_add_one_le h1
theorem z449 {a b : Nat} (h1 : a ≤ b) : (a + (0 : Nat)) < (b + (1 : Nat)) := Nat.lt_succ_of_le h1
theorem z450 {a : Nat} (h1 : (0 : Nat) < a) (h2 : a ≤ (729 : Nat)) : (a : Int) ≠ (0 : Int) := by grind
theorem z453 {a : Int} (h1 : (-(4096 : Int)) ≤ a) (h2 : a ≤ (4096 : Int)) (h3 : ¬ (a < (1 : Int))) : a ≤ (16777216 : Int) := by lia
theorem z455 {a : Int} (h1 : ((0 : Int) ≤ a) ∧ (a ≤ (8 : Int))) : (-((2 : Int) ^ (40 : Nat))) ≤ a := by lia
theorem z456 {a : Nat}  : (0 : Int) ≤ ((-(1 : Int)) + (((a + (1 : Nat)) : Nat) : Int)) := by simp +arith
theorem z457 {a : Nat} (h1 : (2 : Nat) ≤ a) (h2 : a ≤ (8 : Nat)) : (1 : Int) ≤ (a : Int) := by grind
theorem z458 {a : Int} (h1 : (-(4096 : Int)) ≤ a) (h2 : a ≤ (4096 : Int)) (h3 : ¬ (a < (1 : Int))) : (0 : Int) < a := by lia
theorem z459 {a b c : Nat} (h1 : (a ≤ b) ∧ (b < (a + ((c + (1 : Nat)) - a)))) : a ≤ b := by simp_all
theorem z460 {a : Nat} (h1 : (2 : Nat) ≤ a) (h2 : a ≤ (8 : Nat)) : ((a : Int) + (1 : Int)) ≤ (64 : Int) := by lia
theorem z461 {a : Nat} (h1 : a = (98 : Nat)) : (a = (97 : Nat)) ∨ (a = (98 : Nat)) := Or.inr h1
theorem z462 {a : Int}  : (((1 : Int) + a) - (1 : Int)) = a := (fun {b a c} => Iff.mpr Int.sub_eq_iff_eq_add') rfl
theorem z463 {a : Int} (h1 : (1 : Int) ≤ a) (h2 : a ≤ (64 : Int)) : a ≤ ((2 : Int) ^ (40 : Nat)) := by lia
theorem z464 {a : Nat} (h1 : (1 : Nat) ≤ a) : (0 : Int) ≤ (a : Int) := Int.natCast_nonneg a
theorem z465 {a b : Nat} (h1 : ((1 : Int) + (a : Int)) < ((b : Int) + (1 : Int))) : (a : Int) < (b : Int) := by lia
theorem z466 {a : Nat} (h1 : (2 : Nat) ≤ a) (h2 : a ≤ (8 : Nat)) : (2 : Int) ≤ (a : Int) := (fun {m} {n} => Iff.mp Int.toNat_le) h1
theorem z467 {a b : Nat} (h1 : a ≤ b) : (a : Int) ≤ (b : Int) := by lia
theorem z468 {a : Nat} (h1 : a ≤ (5 : Nat)) : a ≤ (4094 : Nat) := by decide +revert
theorem z469 {a : Nat} (h1 : a ≤ (8 : Nat)) : ((8 : Nat) + a) ≤ (16 : Nat) := by decide +revert
theorem z470 {a : Int} (h1 : (1 : Int) ≤ a) (h2 : a ≤ (64 : Int)) : ¬ (a < (1 : Int)) := Int.not_lt_of_ge h1
theorem z471 {a : Int} (h1 : ((4 : Int) ≤ a) ∧ (a ≤ (5 : Int))) : (1 : Int) ≤ a := by lia
theorem z472 {a : Nat} (h1 : a < ((2 : Nat) ^ (53 : Nat))) : a < ((2047 : Nat) * ((2 : Nat) ^ (52 : Nat))) := by lia
theorem z473 {a b : Nat} (h1 : a ≤ b) : a ≤ (b + (1 : Nat)) := Nat.le_add_right_of_le h1
theorem z474 {a : Nat}  : (0 : Int) ≤ (a : Int) := Int.natCast_nonneg a
theorem z475 {a : Nat} (h1 : a ≤ (2 : Nat)) : (0 : Nat) ≤ a := Nat.zero_le a
theorem z476 {a : Int} (h1 : (1 : Int) ≤ a) (h2 : a ≤ (64 : Int)) : a ≠ (0 : Int) := Ne.symm (Int.ne_of_lt h1)
theorem z477 {a : Int} (h1 : (0 : Int) < a) : a ≠ (0 : Int) := Ne.symm (Int.ne_of_lt h1)
theorem z478 {a b : Nat} (h1 : (a + (1 : Nat)) ≤ b) : a ≤ b := Nat.le_of_succ_le h1
theorem z479 {a : Nat} (h1 : (a + (1 : Nat)) ≤ (1100 : Nat)) : a ≤ (1100 : Nat) := Nat.le_of_succ_le h1
theorem z480 {a b : Nat}  : (0 : Nat) ≤ (a - b) := Nat.zero_le (a - b)
theorem z481 {a : Nat} (h1 : a ≤ (4096 : Nat)) : a ≤ (16777216 : Nat) := by lia
theorem z482 {a b c d e f : Int} (h1 : (a ≤ b) ∧ (b < ((c - ((d + e) + f)) + (1 : Int)))) : a ≤ b := by simp_all
theorem z483 {a : Nat} {b : Int} (h1 : (0 : Int) ≤ (b + (a : Int))) : (-(a : Int)) ≤ b := (fun {a b} => Iff.mp Int.add_nonneg_iff_neg_le) h1
theorem z484 {a : Int} (h1 : (0 : Int) ≤ a) (h2 : (a * ((2 : Int) ^ (1073 : Nat))) < (0 : Int)) : a < (0 : Int) := by lia
theorem z485 {a : Nat}  : ¬ ((a : Int) < (0 : Int)) := Int.not_ofNat_neg a
theorem z486 {a b : Nat} (h1 : a < b) : (a : Int) < (b : Int) := by lia
theorem z487 {a b : Nat} (h1 : ¬ (b < a)) : a ≤ b := Nat.le_of_not_lt h1
theorem z488 {a b : Nat} (h1 : ¬ (a < b)) : ¬ ((a : Int) < (b : Int)) := by simp_all
theorem z489 {a : Nat}  : (0 : Nat) ≤ ((8 : Nat) - a) := Nat.zero_le (8 - a)
theorem z490 {a : Nat} (h1 : a < ((2 : Nat) ^ (53 : Nat))) : a ≤ ((2 : Nat) ^ (53 : Nat)) := Nat.le_of_succ_le h1
theorem z491 {a : Nat}  : (2 : Int) ≤ ((a : Int) + (2 : Int)) := by simp +arith
theorem z492 {a b : Int}  : (a ≤ b) ∨ (b ≤ a) := Int.le_total a b
theorem z493 {a : Nat} (h1 : a ≤ (2 : Nat)) : a ≤ (4093 : Nat) := by decide +revert
theorem z494 {a : Nat} (h1 : a = (8 : Nat)) : (8 : Nat) ≤ a := Nat.le_of_eq (id (Eq.symm h1))
theorem z495 {a : Nat} (h1 : a < (64 : Nat)) : a ≤ (4096 : Nat) := by decide +revert
theorem z496 {a b : Nat} (h1 : b = a) : a ≤ b := Nat.le_of_eq (id (Eq.symm h1))
theorem z497 {a b : Nat} (h1 : (a + (1 : Nat)) ≤ b) : a < b := Nat.lt_of_succ_le h1
theorem z499 {a b : Nat} (h1 : a = b) : a ≤ b := Nat.le_of_eq h1
theorem z500 {a : Nat} (h1 : a ≤ (8 : Nat)) : a ≤ (4096 : Nat) := by decide +revert
theorem z501 {a : Int} (h1 : ((0 : Int) ≤ a) ∧ (a ≤ (8 : Int))) : a ≤ ((2 : Int) ^ (40 : Nat)) := by lia
theorem z502 {a : Nat} (h1 : (2 : Nat) ≤ a) (h2 : a ≤ (8 : Nat)) : a < (64 : Nat) := by lia
theorem z503 {a : Nat}  : (0 : Int) < ((a : Int) + (2 : Int)) := (fun {a} => Iff.mp Int.sign_eq_one_iff_pos) rfl
theorem z504 {a b : Int} (h1 : (0 : Int) ≤ b) (h2 : b < (0 : Int)) : a < (0 : Int) := by lia
theorem z505 {a b : Nat} (h1 : (a : Int) < (0 : Int)) : (Int.toNat (max (0 : Int) ((a : Int) + (b : Int)))) = a := by grind
theorem z506 {a : Int} (h1 : (0 : Int) < a) (h2 : a < (1073741824 : Int)) (h3 : a = (0 : Int)) : ¬ (a = (0 : Int)) := Int.ne_of_gt h1
theorem z507 {a : Int} (h1 : (0 : Int) < a) (h2 : a < (1073741824 : Int)) : a ≠ (0 : Int) := Ne.symm (Int.ne_of_lt h1)
theorem z508 {a : Nat} (h1 : a = (5 : Nat)) : (1 : Int) < (a : Int) := by simp_all
theorem z509 {a b : Int} {c : Nat} (h1 : c < ((0 : Nat) + (0 : Nat))) : a ≤ b := by simp_all
theorem z510 {a : Nat} (h1 : a = (5 : Nat)) : (0 : Int) < (a : Int) := by simp_all
theorem z511 {a : Nat} (h1 : (0 : Nat) < a) : (0 : Int) < (a : Int) := by grind
theorem z512 {a : Nat} (h1 : a ≤ (4096 : Nat)) : ¬ ((a : Int) ≥ ((2 : Int) ^ (63 : Nat))) := by lia
theorem z513 {a : Nat}  : a ≤ a := Nat.le_refl a
theorem z514 {a : Nat} (h1 : (2 : Nat) ≤ a) : (1 : Int) ≤ (a : Int) := by grind
theorem z515 {a : Nat} (h1 : a = (8 : Nat)) : a ≤ (8 : Nat) := Nat.le_of_eq h1
theorem z516 {a : Nat} (h1 : a ≤ (100 : Nat)) : a ≤ (4094 : Nat) := by decide +revert
theorem z517 {a : Nat} (h1 : a ≤ (6 : Nat)) : a ≤ (4096 : Nat) := by decide +revert
theorem z518 {a : Nat} (h1 : a ≤ (63 : Nat)) : a ≤ (4096 : Nat) := by decide +revert
theorem z519 {a : Nat} (h1 : a ≤ (4096 : Nat)) : (a : Int) < (9223372036854775808 : Int) := by lia
theorem z520 {a : Nat} (h1 : a ≤ (8 : Nat)) : a ≤ (100 : Nat) := by decide +revert
theorem z521 {a : Int} (h1 : (2 : Int) ≤ a) : (a + (1 : Int)) ≠ (0 : Int) := by grind
theorem z522 {a : Int} (h1 : (0 : Int) ≤ a) : (1 : Int) ≤ (a + (1 : Int)) := Int.le_add_of_nonneg_left h1
theorem z523 {a : Nat}  : (0 : Nat) ≤ a := Nat.zero_le a
theorem z524 {a b : Nat}  : (a - b) ≤ (a - b) := Nat.le_refl (a - b)
theorem z525 {a : Nat} (h1 : a = (5 : Nat)) : (2 : Int) < (a : Int) := by simp_all
theorem z526 {a : Nat} (h1 : a = (5 : Nat)) : (3 : Int) < (a : Int) := by simp_all
theorem z527 {a : Nat} (h1 : a = (5 : Nat)) : (4 : Int) < (a : Int) := by simp_all
theorem z528 {a : Nat} (h1 : a = (8 : Nat)) : a ≤ (9 : Nat) := by simp_all
theorem z531 {a : Int}  : ¬ (a < a) := Int.lt_irrefl a
theorem z536 {a : Int} (h1 : (1 : Int) ≤ a) : ¬ (a < (1 : Int)) := Int.not_lt_of_ge h1
theorem z537 {a : Nat} (h1 : (0 : Nat) < a) (h2 : a = (0 : Nat)) : False := by simp_all
theorem z542   : (0 : Nat) < ((2047 : Nat) * ((2 : Nat) ^ (52 : Nat))) := Nat.zero_lt_succ 9218868437227405311
theorem z543  (h1 : ((46 : Nat) = (97 : Nat)) ∨ ((46 : Nat) = (98 : Nat))) : False := by grind
theorem z544  (h1 : ((126 : Nat) = (97 : Nat)) ∨ ((126 : Nat) = (98 : Nat))) : False := by grind
theorem z545   : (0 : Int) ≤ (56 : Int) := Int.zero_le_ofNat 56
theorem z546   : (0 : Int) ≤ (8 : Int) := Int.zero_le_ofNat 8
theorem z547   : (0 : Int) ≤ (64 : Int) := Int.zero_le_ofNat 64
theorem z556   : (1073 : Nat) ≤ (1100 : Nat) := Nat.le_of_ble_eq_true rfl
theorem z557   : (0 : Nat) ≤ (64 : Nat) := Nat.zero_le 64
theorem z558   : (1 : Int) ≤ (2 : Int) := by simp +arith
theorem z559   : (2 : Int) ≤ (64 : Int) := by simp +arith
theorem z560   : (1 : Nat) ≤ (2 : Nat) := Nat.le_of_ble_eq_true rfl
theorem z561   : (1 : Nat) ≤ (4 : Nat) := Nat.le_of_ble_eq_true rfl
theorem z562   : (1 : Nat) ≤ (1 : Nat) := Nat.le_of_ble_eq_true rfl
end
section
open PySem PySem.W PyProof.Rows
theorem ns_ {α : Type} {x : α} {P : Prop} (e : none = some x) : P := nomatch e
theorem sn_ {α : Type} {x : α} {P : Prop} (e : some x = none) : P := nomatch e
theorem ft_ {P : Prop} (e : false = true) : P := nomatch e
theorem tf_ {P : Prop} (e : true = false) : P := nomatch e
/-- the size that a list or a text of this program stays under -/
noncomputable def lim : Nat := 4096
/-- a float of the value k / 2 -/
noncomputable def FV (x : UInt64) (k : Int) : Prop := ∃ a m e, Float64.decode x = .fin a m e ∧ Float64.val x = k * 2 ^ 1073
inductive D where
  | int (i : Int)
  | bool (b : Bool)
  | str (x : Str)
  | flt (k : Int)
  | list (ds : List D)
  | tup (ds : List D)
  | val (v : Value)
/-- a plain sequence object -/
noncomputable def Plain (h : Heap) (T : String) (a : Addr) (vs : List Value) : Prop := ∃ n, h.get? a = some { cls := .type T, data := .seq vs.toArray n }
mutual
inductive Rep (h : Heap) (X : List Addr) : Value → D → Prop
  | int (i : Int) (t : Tok) : Rep h X (.int i t) (.int i)
  | bool (b : Bool) : Rep h X (.bool b) (.bool b)
  | str (x : Str) (t : Tok) : x.length ≤ lim → Rep h X (.str x t) (.str x)
  | flt (x : UInt64) (t : Tok) (k : Int) : FV x k → Rep h X (.float x t) (.flt k)
  | list {a : Addr} {vs : List Value} {ds : List D} : a ∉ X → Plain h "list" a vs → ds.length ≤ lim → Reps h X vs ds → Rep h X (.ref a) (.list ds)
  | tup {a : Addr} {vs : List Value} {ds : List D} : a ∉ X → Plain h "tuple" a vs → ds.length ≤ lim → Reps h X vs ds → Rep h X (.ref a) (.tup ds)
  | val (v : Value) : Rep h X v (.val v)
inductive Reps (h : Heap) (X : List Addr) : List Value → List D → Prop
  | nil : Reps h X [] []
  | cons {v : Value} {vs : List Value} {d : D} {ds : List D} : Rep h X v d → Reps h X vs ds → Reps h X (v :: vs) (d :: ds)
end
section
variable {h : Heap} {X : List Addr} {v : Value} {P : Value → Prop} {Ps : List Value → Prop}
/-- what a datum says of its value -/
noncomputable def RepAt (h : Heap) (X : List Addr) (v : Value) : D → Prop
  | .int i => ∃ t, v = .int i t
  | .bool b => v = .bool b
  | .str x => ∃ t, x.length ≤ lim ∧ v = .str x t
  | .flt k => ∃ x t, FV x k ∧ v = .float x t
  | .list ds => ∃ a vs, (a ∉ X ∧ Plain h "list" a vs ∧ ds.length ≤ lim ∧ Reps h X vs ds) ∧ v = .ref a
  | .tup ds => ∃ a vs, (a ∉ X ∧ Plain h "tuple" a vs ∧ ds.length ≤ lim ∧ Reps h X vs ds) ∧ v = .ref a
  | .val u => v = u
theorem Rep.inv {d : D} (r : Rep h X v d) : RepAt h X v d := by
  cases r with
  | int i t => exact ⟨t, rfl⟩
  | bool b => exact (rfl : _ = _)
  | str x t e => exact ⟨t, e, rfl⟩
  | flt x t k e => exact ⟨x, t, e, rfl⟩
  | list h1 h2 h3 h4 => exact ⟨_, _, ⟨h1, h2, h3, h4⟩, rfl⟩
  | tup h1 h2 h3 h4 => exact ⟨_, _, ⟨h1, h2, h3, h4⟩, rfl⟩
  | val => exact (rfl : _ = _)
theorem Rep.onInt {i : Int} (r : Rep h X v (.int i)) (k : ∀ t, P (.int i t)) : P v := by obtain ⟨t, e⟩ := r.inv; exact e ▸ k t
theorem Rep.onBool {b : Bool} (r : Rep h X v (.bool b)) (k : P (.bool b)) : P v := Eq.symm (show v = .bool b from r.inv) ▸ k
theorem Rep.onStr {x : Str} (r : Rep h X v (.str x)) (k : ∀ t, x.length ≤ lim → P (.str x t)) : P v := by obtain ⟨t, q, e⟩ := r.inv; exact e ▸ k t q
theorem Rep.onFlt {j : Int} (r : Rep h X v (.flt j)) (k : ∀ x t, FV x j → P (.float x t)) : P v := by obtain ⟨x, t, q, e⟩ := r.inv; exact e ▸ k x t q
theorem Rep.onList {ds : List D} (r : Rep h X v (.list ds)) (k : ∀ a vs, a ∉ X → Plain h "list" a vs → ds.length ≤ lim → Reps h X vs ds → P (.ref a)) : P v := by obtain ⟨a, vs, q, e⟩ := r.inv; exact e ▸ k a vs q.1 q.2.1 q.2.2.1 q.2.2.2
theorem Rep.onTup {ds : List D} (r : Rep h X v (.tup ds)) (k : ∀ a vs, a ∉ X → Plain h "tuple" a vs → ds.length ≤ lim → Reps h X vs ds → P (.ref a)) : P v := by obtain ⟨a, vs, q, e⟩ := r.inv; exact e ▸ k a vs q.1 q.2.1 q.2.2.1 q.2.2.2
theorem Rep.onVal {u : Value} (r : Rep h X v (.val u)) (k : P u) : P v := Eq.symm (show v = u from r.inv) ▸ k
noncomputable def RepsAt (h : Heap) (X : List Addr) (vs : List Value) : List D → Prop
  | [] => vs = []
  | d :: ds => ∃ v ws, (Rep h X v d ∧ Reps h X ws ds) ∧ vs = v :: ws
theorem Reps.inv {vs : List Value} {ds : List D} (r : Reps h X vs ds) : RepsAt h X vs ds := by
  cases r with
  | nil => exact (rfl : _ = _)
  | cons r rs => exact ⟨_, _, ⟨r, rs⟩, rfl⟩
theorem Reps.onNil {vs : List Value} (r : Reps h X vs []) (k : Ps []) : Ps vs := Eq.symm (show vs = [] from r.inv) ▸ k
theorem Reps.onCons {vs : List Value} {d : D} {ds : List D} (r : Reps h X vs (d :: ds)) (k : ∀ v vs, Rep h X v d → Reps h X vs ds → Ps (v :: vs)) : Ps vs := by obtain ⟨v, ws, q, e⟩ := r.inv; exact e ▸ k v ws q.1 q.2
theorem Reps.ind {P : List Value → List D → Prop} (h0 : P [] []) (h1 : ∀ v vs d ds, Rep h X v d → Reps h X vs ds → P vs ds → P (v :: vs) (d :: ds)) {vs : List Value} {ds : List D} (rs : Reps h X vs ds) : P vs ds :=
  Reps.rec (motive_1 := fun _ _ _ => True) (motive_2 := fun vs ds _ => P vs ds) (fun _ _ => trivial) (fun _ => trivial) (fun _ _ _ => trivial) (fun _ _ _ _ => trivial) (fun _ _ _ _ _ => trivial) (fun _ _ _ _ _ => trivial) (fun _ => trivial) h0 (fun r rs _ ih => h1 _ _ _ _ r rs ih) rs
variable {h' : Heap} {Y : List Addr}
theorem Rep.map (hp : ∀ a T vs, a ∉ X → Plain h T a vs → a ∉ Y ∧ Plain h' T a vs) {d : D} (r : Rep h X v d) : Rep h' Y v d :=
  Rep.rec (motive_1 := fun v d _ => Rep h' Y v d) (motive_2 := fun vs ds _ => Reps h' Y vs ds) (fun _ _ => .int _ _) (fun _ => .bool _) (fun _ _ q => .str _ _ q) (fun _ _ _ q => .flt _ _ _ q) (fun ha p hl _ ih => .list (hp _ _ _ ha p).1 (hp _ _ _ ha p).2 hl ih) (fun ha p hl _ ih => .tup (hp _ _ _ ha p).1 (hp _ _ _ ha p).2 hl ih) (fun _ => .val _) .nil (fun _ _ r ih => .cons r ih) r
theorem Reps.map (hp : ∀ a T vs, a ∉ X → Plain h T a vs → a ∉ Y ∧ Plain h' T a vs) {vs : List Value} {ds : List D} (rs : Reps h X vs ds) : Reps h' Y vs ds :=
  rs.ind (P := Reps h' Y) .nil fun _ _ _ _ r _ ih => .cons (r.map hp) ih
end
/-- the addresses that stood at first; the codes' tables that may grow -/
class Lo where
  old : Addr → Bool
  tabs : List Addr
noncomputable def noneV : Value → Bool
  | .none => true
  | _ => false
noncomputable def fieldsD : Data → Bool
  | .fields _ => true
  | _ => false
theorem noneV_no {v : Value} (h : v ≠ .none) : noneV v = false := by
  unfold noneV; split
  · exact absurd rfl h
  · rfl
theorem fieldsD_no {d : Data} (h : ∀ vs, d ≠ .fields vs) : fieldsD d = false := by
  unfold fieldsD; split
  · exact absurd rfl (h _)
  · rfl
/-- a code's table of places -/
noncomputable def tab (o : Obj) : Bool := noneV o.cls && (fieldsD o.data && (o.dict.isNone && o.slots.isEmpty))
theorem tab_no {o : Obj} (h : (∀ vs, o.data ≠ .fields vs) ∨ o.cls ≠ .none) : tab o = false := by
  unfold tab
  rcases h with h | h
  · rw [fieldsD_no h, Bool.false_and, Bool.and_false]
  · rw [noneV_no h, Bool.false_and]
/-- what a frame's object may be -/
noncomputable def frm (o : Obj) : Bool := match o.data with
  | .dict .. => true
  | _ => false
noncomputable def soft [Lo] (b : Addr) (o : Obj) : Bool := (tab o && decide (b ∈ Lo.tabs)) || (frm o && !Lo.old b)
/-- what a step may do to an object that stands -/
inductive Turn [Lo] (b : Addr) : Obj → Obj → Prop
  | same (o : Obj) : Turn b o o
  | table {ps more : Array Value} : b ∈ Lo.tabs → (TriplesOk ps.toList → TriplesOk (ps ++ more).toList) → Turn b { cls := .none, data := .fields ps } { cls := .none, data := .fields (ps ++ more) }
  | frame {o : Obj} (sl : Array (Option Value)) : frm o = true → Lo.old b = false → Turn b o { o with slots := sl }
noncomputable def tb (ps : Array Value) : Obj := { cls := .none, data := .fields ps }
theorem Turn.fwd [Lo] {b : Addr} {o o' : Obj} (x : Turn b o o') : o' = o ∨ (∃ ps more, (b ∈ Lo.tabs ∧ (TriplesOk ps.toList → TriplesOk (ps ++ more).toList)) ∧ o = tb ps ∧ o' = tb (ps ++ more)) ∨ ∃ sl, (frm o = true ∧ Lo.old b = false) ∧ o' = { o with slots := sl } := by
  cases x with
  | same => exact .inl rfl
  | table h1 h2 => exact .inr (.inl ⟨_, _, ⟨h1, h2⟩, rfl, rfl⟩)
  | frame sl h1 h2 => exact .inr (.inr ⟨sl, ⟨h1, h2⟩, rfl⟩)
theorem tb_inj {ps qs : Array Value} (h : tb ps = tb qs) : ps = qs := by injection h with _ _ h; injection h
theorem Turn.trans [Lo] {b : Addr} {o o' o'' : Obj} (x : Turn b o o') (y : Turn b o' o'') : Turn b o o'' := by
  rcases x.fwd with e | ⟨ps, more, q, e, e'⟩ | ⟨sl, q, e⟩
  · exact e ▸ y
  · rcases y.fwd with r | ⟨ps', more', r, r', r''⟩ | ⟨_, r, _⟩
    · rw [r]; exact x
    · rw [r'', ← tb_inj (e'.symm.trans r'), e, Array.append_assoc]
      rw [← tb_inj (e'.symm.trans r'), Array.append_assoc] at r
      exact .table q.1 fun t => r.2 (q.2 t)
    · rw [e'] at r; exact ft_ r.1
  · rcases y.fwd with r | ⟨ps', more', r, r', r''⟩ | ⟨_, r, r'⟩
    · rw [r]; exact x
    · have r' := congrArg frm (e.symm.trans r'); have r' : frm o = _ := r'; rw [q.1] at r'; exact tf_ r'
    · rw [r', e]; exact .frame _ q.1 q.2
theorem Turn.hard [Lo] {b : Addr} {o o' : Obj} (x : Turn b o o') (t : soft b o = false) : o' = o := by
  rcases x.fwd with e | ⟨ps, more, q, e, _⟩ | ⟨sl, q, e⟩
  · exact e
  · rw [e] at t
    have t : (decide (b ∈ Lo.tabs) || false) = false := t
    rw [decide_eq_true q.1] at t; exact tf_ t
  · unfold soft at t; rw [q.1, q.2, Bool.or_eq_false_iff] at t; exact tf_ t.2
theorem Turn.data [Lo] {b : Addr} {o o' : Obj} (x : Turn b o o') (h : ∀ vs, o.data ≠ .fields vs) : o'.data = o.data := by
  rcases x.fwd with e | ⟨ps, more, q, e, _⟩ | ⟨sl, q, e⟩
  · rw [e]
  · rw [e] at h; exact absurd rfl (h ps)
  · rw [e]
/-- all objects stand but for the codes' tables, which grow, and new frames' slots -/
structure Keep [Lo] (h h' : Heap) : Prop where
  all : ∀ b o, h.get? b = some o → ∃ o', h'.get? b = some o' ∧ Turn b o o'
theorem Keep.at' [Lo] {h h' : Heap} (k : Keep h h') (b : Addr) (o : Obj) (e : h.get? b = some o) (t : soft b o = false) : h'.get? b = some o := by
  obtain ⟨o', e', x⟩ := k.all b o e
  rw [e', x.hard t]
theorem Keep.of [Lo] {h h' : Heap} (k : ∀ b o, h.get? b = some o → h'.get? b = some o) : Keep h h' := ⟨fun b o e => ⟨o, k b o e, .same o⟩⟩
theorem Keep.refl [Lo] (h : Heap) : Keep h h := .of fun _ _ e => e
theorem Keep.trans [Lo] {h h' h'' : Heap} (a : Keep h h') (b : Keep h' h'') : Keep h h'' := ⟨fun x o e => by
  obtain ⟨o', e', t'⟩ := a.all x o e
  obtain ⟨o'', e'', t''⟩ := b.all x o' e'
  exact ⟨o'', e'', t'.trans t''⟩⟩
/-- a step that turns nothing that the first heap knows -/
theorem Keep.but [Lo] {h h' h'' : Heap} (a : Keep h h') (k : ∀ {o'} b o, h.get? b = some o' → h'.get? b = some o → h''.get? b = some o) : Keep h h'' := ⟨fun b o e => by
  obtain ⟨o', e', t'⟩ := a.all b o e
  exact ⟨o', k b o' e e', t'⟩⟩
theorem Keep.here [Lo] {h h' : Heap} (k : Keep h h') {b : Addr} {o : Obj} (e : h.get? b = some o) : ∃ o', h'.get? b = some o' := by obtain ⟨o', e', _⟩ := k.all b o e; exact ⟨o', e'⟩
theorem Keep.none [Lo] {h h' : Heap} (k : Keep h h') {b : Addr} (e : h'.get? b = none) : h.get? b = none := by
  cases q : h.get? b with
  | none => rfl
  | some o => obtain ⟨o', e'⟩ := k.here q; rw [e] at e'; cases e'
theorem Keep.lt [Lo] {h h' : Heap} (k : Keep h h') {b : Addr} {o : Obj} (e : h.get? b = some o) : b < h'.objs.size := by obtain ⟨_, e'⟩ := k.here e; exact Heap.lt_size e'
theorem frm_no {o : Obj} (h : ∀ es n, o.data ≠ .dict es n) : frm o = false := by
  unfold frm; split
  · rename_i e; exact absurd e (h _ _)
  · rfl
theorem soft_of [Lo] {b : Addr} {o : Obj} (h1 : ∀ es n, o.data ≠ .dict es n) (h2 : (∀ vs, o.data ≠ .fields vs) ∨ o.cls ≠ .none) : soft b o = false := by
  unfold soft; rw [tab_no h2, frm_no h1]; rfl
theorem soft_cell [Lo] {b : Addr} {o : Obj} {v : Option Value} (h : o.data = .cell v) : soft b o = false := soft_of (by rw [h]; exact fun _ _ e => Data.noConfusion e) (.inl (by rw [h]; exact fun _ e => Data.noConfusion e))
theorem soft_func [Lo] {b : Addr} {o : Obj} {f : FuncData} (h : o.data = .func f) : soft b o = false := soft_of (by rw [h]; exact fun _ _ e => Data.noConfusion e) (.inl (by rw [h]; exact fun _ e => Data.noConfusion e))
theorem soft_fields [Lo] {b : Addr} {o : Obj} {T : String} {vs : Array Value} (h : o.cls = .type T) (hd : o.data = .fields vs) : soft b o = false := soft_of (by rw [hd]; exact fun _ _ e => Data.noConfusion e) (.inr (by rw [h]; exact fun e => Value.noConfusion e))
theorem soft_seq [Lo] {b : Addr} {o : Obj} {vs : Array Value} {n : Nat} (hd : o.data = .seq vs n) : soft b o = false := soft_of (by rw [hd]; exact fun _ _ e => Data.noConfusion e) (.inl (by rw [hd]; exact fun _ e => Data.noConfusion e))
theorem Keep.ns [Lo] {h h' : Heap} (k : Keep h h') {a : Addr} {m : Str → Option Value} (x : h.Ns a m) : h'.Ns a m := by
  obtain ⟨o, es, ep, ho, hd, r⟩ := x
  obtain ⟨o', e', t⟩ := k.all a o ho
  exact ⟨o', es, ep, e', (t.data (by rw [hd]; exact fun _ e => Data.noConfusion e)).trans hd, r⟩
theorem Keep.cell [Lo] {h h' : Heap} (k : Keep h h') {a : Addr} {v : Option Value} (x : h.IsCell a v) : h'.IsCell a v := by obtain ⟨o, e, d⟩ := x; exact ⟨o, k.at' a o e (soft_cell d), d⟩
/-- all sequence objects outside X stand as they stood -/
noncomputable def SeqKeep (X : List Addr) (h h' : Heap) : Prop := ∀ a T vs n, a ∉ X → h.get? a = some { cls := .type T, data := .seq vs n } → h'.get? a = some { cls := .type T, data := .seq vs n }
theorem Plain.keep {X : List Addr} {h h' : Heap} {T : String} {a : Addr} {vs : List Value} (p : Plain h T a vs) (k : SeqKeep X h h') (ha : a ∉ X) : Plain h' T a vs :=
  by obtain ⟨n, e⟩ := p; exact ⟨n, k a _ _ _ ha e⟩
theorem Plain.isList {h : Heap} {a : Addr} {vs : List Value} (p : Plain h "list" a vs) : h.IsList a vs.toArray := by obtain ⟨n, e⟩ := p; exact ⟨_, e, rfl, n, rfl⟩
theorem Plain.plainList {h : Heap} {a : Addr} {vs : List Value} (p : Plain h "list" a vs) : h.PlainList a vs.toArray := p
theorem Plain.isTuple {h : Heap} {a : Addr} {vs : List Value} (p : Plain h "tuple" a vs) : h.IsTuple a vs.toArray := by obtain ⟨n, e⟩ := p; exact ⟨_, e, rfl, n, rfl⟩
theorem SeqKeep.map {h h' : Heap} {X : List Addr} (k : SeqKeep X h h') (a : Addr) (T : String) (vs : List Value) (ha : a ∉ X) (p : Plain h T a vs) : a ∉ X ∧ Plain h' T a vs := ⟨ha, p.keep k ha⟩
theorem Rep.keep {h h' : Heap} {X : List Addr} (k : SeqKeep X h h') {v : Value} {d : D} (r : Rep h X v d) : Rep h' X v d := r.map k.map
theorem Reps.keep {h h' : Heap} {X : List Addr} (k : SeqKeep X h h') {vs : List Value} {ds : List D} (r : Reps h X vs ds) : Reps h' X vs ds := r.map k.map
/-- fewer exclusions: the same data -/
theorem Rep.less {h : Heap} {X Y : List Addr} (k : ∀ a, a ∈ Y → a ∈ X) {v : Value} {d : D} (r : Rep h X v d) : Rep h Y v d := r.map fun _ _ _ ha p => ⟨fun hy => ha (k _ hy), p⟩
theorem Reps.less {h : Heap} {X Y : List Addr} (k : ∀ a, a ∈ Y → a ∈ X) {vs : List Value} {ds : List D} (r : Reps h X vs ds) : Reps h Y vs ds := r.map fun _ _ _ ha p => ⟨fun hy => ha (k _ hy), p⟩
theorem Keep.seq [Lo] {X : List Addr} {h h' : Heap} (k : Keep h h') : SeqKeep X h h' := fun a _ _ _ _ e => k.at' a _ e rfl
theorem Plain.more [Lo] {h h' : Heap} {X Y : List Addr} (k : Keep h h') (hn : ∀ a ∈ Y, a ∈ X ∨ h.get? a = none) (a : Addr) (T : String) (vs : List Value) (ha : a ∉ X) (p : Plain h T a vs) : a ∉ Y ∧ Plain h' T a vs :=
  by obtain ⟨n, e⟩ := p; exact ⟨fun hy => (hn _ hy).elim ha fun q => ns_ (q.symm.trans e), ⟨n, k.at' _ _ e rfl⟩⟩
/-- more exclusions: what stood in an elder heap that knows none of them -/
theorem Rep.more [Lo] {h h' : Heap} {X Y : List Addr} (k : Keep h h') (hn : ∀ a ∈ Y, a ∈ X ∨ h.get? a = none) {v : Value} {d : D} (r : Rep h X v d) : Rep h' Y v d := r.map (Plain.more k hn)
theorem Reps.more [Lo] {h h' : Heap} {X Y : List Addr} (k : Keep h h') (hn : ∀ a ∈ Y, a ∈ X ∨ h.get? a = none) {vs : List Value} {ds : List D} (r : Reps h X vs ds) : Reps h' Y vs ds := r.map (Plain.more k hn)
section
variable {h : Heap} {X : List Addr} {vs : List Value} {ds : List D}
theorem Reps.length (rs : Reps h X vs ds) : vs.length = ds.length := rs.ind (P := fun vs ds => vs.length = ds.length) rfl fun _ _ _ _ _ _ ih => congrArg (· + 1) ih
theorem Reps.nth? (rs : Reps h X vs ds) : ∀ i : Nat, (∃ v d, vs[i]? = some v ∧ ds[i]? = some d ∧ Rep h X v d) ∨ (vs[i]? = none ∧ ds[i]? = none) :=
  rs.ind (P := fun vs ds => ∀ i : Nat, (∃ v d, vs[i]? = some v ∧ ds[i]? = some d ∧ Rep h X v d) ∨ (vs[i]? = none ∧ ds[i]? = none)) (fun _ => .inr ⟨rfl, rfl⟩) fun v vs d ds r _ ih i => match i with
    | 0 => .inl ⟨v, d, rfl, rfl, r⟩
    | i + 1 => ih i
theorem Reps.get {i : Nat} {d : D} (rs : Reps h X vs ds) (e : ds[i]? = some d) : ∃ v, vs[i]? = some v ∧ Rep h X v d := by
  rcases rs.nth? i with ⟨v, d', h1, h2, r⟩ | q
  · exact ⟨v, h1, Option.some.inj (h2.symm.trans e) ▸ r⟩
  · exact ns_ (q.2.symm.trans e)
theorem Reps.get' {i : Nat} {v : Value} (rs : Reps h X vs ds) (e : vs[i]? = some v) : ∃ d, ds[i]? = some d ∧ Rep h X v d := by
  rcases rs.nth? i with ⟨v', d, h1, h2, r⟩ | q
  · exact ⟨d, h2, Option.some.inj (h1.symm.trans e) ▸ r⟩
  · exact ns_ (q.1.symm.trans e)
theorem Reps.append {ws : List Value} {es : List D} (rs : Reps h X vs ds) (b : Reps h X ws es) : Reps h X (vs ++ ws) (ds ++ es) := rs.ind (P := fun vs ds => Reps h X (vs ++ ws) (ds ++ es)) b fun _ _ _ _ r _ ih => .cons r ih
theorem Reps.snoc {v : Value} {d : D} (a : Reps h X vs ds) (b : Rep h X v d) : Reps h X (vs ++ [v]) (ds ++ [d]) := a.append (.cons b .nil)
theorem Reps.take (n : Nat) (rs : Reps h X vs ds) : Reps h X (vs.take n) (ds.take n) := rs.ind (P := fun vs ds => ∀ n : Nat, Reps h X (vs.take n) (ds.take n)) (fun n => by rw [List.take_nil, List.take_nil]; exact .nil) (fun _ _ _ _ r _ ih n => match n with
  | 0 => .nil
  | n + 1 => .cons r (ih n)) n
theorem Reps.drop (n : Nat) (rs : Reps h X vs ds) : Reps h X (vs.drop n) (ds.drop n) := rs.ind (P := fun vs ds => ∀ n : Nat, Reps h X (vs.drop n) (ds.drop n)) (fun n => by rw [List.drop_nil, List.drop_nil]; exact .nil) (fun _ _ _ _ r rs ih n => match n with
  | 0 => .cons r rs
  | n + 1 => ih n) n
theorem Reps.set (n : Nat) {v : Value} {d : D} (rs : Reps h X vs ds) (b : Rep h X v d) : Reps h X (vs.set n v) (ds.set n d) := rs.ind (P := fun vs ds => ∀ n : Nat, Reps h X (vs.set n v) (ds.set n d)) (fun _ => .nil) (fun _ _ _ _ r rs ih n => match n with
  | 0 => .cons b rs
  | n + 1 => .cons r (ih n)) n
theorem Reps.erase (n : Nat) (rs : Reps h X vs ds) : Reps h X (vs.eraseIdx n) (ds.eraseIdx n) := rs.ind (P := fun vs ds => ∀ n : Nat, Reps h X (vs.eraseIdx n) (ds.eraseIdx n)) (fun _ => .nil) (fun _ _ _ _ r rs ih n => match n with
  | 0 => rs
  | n + 1 => .cons r (ih n)) n
end
variable [Lo]
/-- how an expression leaves the state: every object stands but for codes' tables, outside is untouched -/
structure Kp (s s' : Shared) : Prop where
  heap : Keep s.heap s'.heap
  os : s'.os = s.os
  gens : AllBare s.gens → AllBare s'.gens
theorem Kp.refl (s : Shared) : Kp s s := ⟨.refl _, rfl, fun x => x⟩
theorem Kp.trans {s s' s'' : Shared} (a : Kp s s') (b : Kp s' s'') : Kp s s'' := ⟨a.heap.trans b.heap, b.os.trans a.os, fun x => b.gens (a.gens x)⟩
theorem Kp.to {s : Shared} {h : Heap} {t : Nat} (k : ∀ b o, s.heap.get? b = some o → h.get? b = some o) : Kp s { s with heap := h, toks := t } := ⟨.of k, rfl, fun x => x⟩
theorem Kp.tok {s : Shared} {t : Nat} : Kp s { s with toks := t } := ⟨.refl _, rfl, fun x => x⟩
theorem Kp.push {s : Shared} {o : Obj} {t : Nat} : Kp s { s with heap := s.heap.push o, toks := t } := Kp.to fun _ _ e => Heap.get?_push_of_some _ e
theorem Kp.seq {s s' : Shared} {X : List Addr} (k : Kp s s') : SeqKeep X s.heap s'.heap := k.heap.seq
theorem Rep.kp {s s' : Shared} {X : List Addr} {v : Value} {d : D} (r : Rep s.heap X v d) (k : Kp s s') : Rep s'.heap X v d := r.keep k.seq
theorem Reps.kp {s s' : Shared} {X : List Addr} {v : List Value} {d : List D} (r : Reps s.heap X v d) (k : Kp s s') : Reps s'.heap X v d := r.keep k.seq
end
section
open PySem PySem.W PyProof.Rows
variable [Lo]
theorem Ns.uniq {h : Heap} {a : Addr} {m m' : Str → Option Value} (x : h.Ns a m) (y : h.Ns a m') : m = m' := by
  obtain ⟨o, es, ep, ho, hd, _, hm⟩ := x
  obtain ⟨o', es', ep', ho', hd', _, hm'⟩ := y
  rw [ho] at ho'; cases ho'
  rw [hd] at hd'; cases hd'
  funext n; rw [← hm n, ← hm' n]
theorem not_seq_of_ns {h : Heap} {a : Addr} {m : Str → Option Value} (x : h.Ns a m) {T : String} {vs : Array Value} {n : Nat} (e : h.get? a = some { cls := .type T, data := .seq vs n }) : False := by
  obtain ⟨o, es, ep, ho, hd, _, _⟩ := x
  rw [ho] at e; cases e; cases hd
theorem not_seq_of_cell {h : Heap} {a : Addr} {v : Option Value} (x : h.IsCell a v) {T : String} {vs : Array Value} {n : Nat} (e : h.get? a = some { cls := .type T, data := .seq vs n }) : False := by
  obtain ⟨o, ho, hd⟩ := x
  rw [ho] at e; cases e; cases hd
theorem ns_ne_cell {h : Heap} {a b : Addr} {m : Str → Option Value} {v : Option Value} (x : h.Ns a m) (y : h.IsCell b v) : a ≠ b := by
  rintro rfl
  obtain ⟨o, es, ep, ho, hd, _, _⟩ := x
  obtain ⟨o', ho', hd'⟩ := y
  rw [ho] at ho'; cases ho'; rw [hd] at hd'; cases hd'
theorem plain_ne_ns {h : Heap} {a b : Addr} {T : String} {vs : List Value} {m : Str → Option Value} (x : Plain h T a vs) (y : h.Ns b m) : a ≠ b := by
  rintro rfl; obtain ⟨n, e⟩ := x; exact not_seq_of_ns y e
theorem plain_ne_cell {h : Heap} {a b : Addr} {T : String} {vs : List Value} {v : Option Value} (x : Plain h T a vs) (y : h.IsCell b v) : a ≠ b := by
  rintro rfl; obtain ⟨n, e⟩ := x; exact not_seq_of_cell y e
/-- what a name of the frame gives -/
inductive Look (h : Heap) (env : Env) (x : Str) (v : Value) : Prop
  | loc {m : Str → Option Value} : env.kindOf x = some .local → h.Ns env.locals m → m x = some v → Look h env x v
  | cell {c : Addr} : env.kindOf x = some .cell → env.cells.lookup x = some c → h.IsCell c (some v) → Look h env x v
  | free {c : Addr} : env.kindOf x = some .free → (x == ("__classdict__" : Str)) = false → env.cells.lookup x = some c → h.IsCell c (some v) → Look h env x v
  | glob {mg : Str → Option Value} : env.kindOf x = some .globalImplicit → h.Ns mainGlobals mg → mg x = some v → Look h env x v
  | built {mg mb : Str → Option Value} : env.kindOf x = some .globalImplicit → h.Ns mainGlobals mg → mg x = none → h.Ns builtinsNs mb → mb x = some v → Look h env x v
noncomputable abbrev Own := Option (Str × List D)
noncomputable def Here (h : Heap) (a : Addr) : Prop := ∃ o, h.get? a = some o
noncomputable def Alive (X : List Addr) (h : Heap) : Prop := ∀ a ∈ X, Here h a
theorem Alive.to {X : List Addr} {h h' : Heap} (a : Alive X h) (k : ∀ b, Here h b → Here h' b) : Alive X h' := fun x hx => k _ (a x hx)
theorem Alive.keeps {X : List Addr} {h h' : Heap} (a : Alive X h) (k : Keep h h') : Alive X h' := fun x hx => by obtain ⟨_, e⟩ := a x hx; exact k.here e
theorem Alive.new {X : List Addr} {h : Heap} (a : Alive X h) : h.objs.size ∉ X := fun hx => by obtain ⟨_, e⟩ := a _ hx; exact Nat.lt_irrefl _ (Heap.lt_size e)
theorem here_of_ns {h : Heap} {a : Addr} {m : Str → Option Value} (x : h.Ns a m) : Here h a := by obtain ⟨o, _, _, e, _⟩ := x; exact ⟨o, e⟩
theorem here_of_cell {h : Heap} {a : Addr} {v : Option Value} (x : h.IsCell a v) : Here h a := by obtain ⟨o, e, _⟩ := x; exact ⟨o, e⟩
theorem here_sameBut {h h' : Heap} {a : Addr} (hs : Heap.SameBut a h h') (ha : Here h' a) : ∀ b, Here h b → Here h' b := fun b ⟨o, e⟩ => by
  by_cases hb : b = a
  · subst hb; exact ha
  · exact ⟨o, (hs.2 b hb).trans e⟩
/-- the own list, and nobody else knows it -/
inductive OwnL (y : Str) (ds : List D) (X : List Addr) (h : Heap) (env : Env) : Prop
  | mk (a : Addr) (vs : List Value) (X₀ : List Addr) : X = a :: X₀ → a ∉ X₀ → Alive X₀ h → Look h env y (.ref a) → Plain h "list" a vs → ds.length ≤ lim → Reps h X vs ds → OwnL y ds X h env
noncomputable def OwnOK (o : Own) (X : List Addr) (h : Heap) (env : Env) : Prop := match o with
  | none => Alive X h
  | some (y, ds) => OwnL y ds X h env
structure EnvOK (o : Own) (X : List Addr) (h : Heap) (env : Env) (ρ : List (Str × D)) : Prop where
  kind : env.scope.kind = .function
  glob : env.globals = mainGlobals
  built : env.builtins = builtinsNs
  ns : ∃ m, h.Ns env.locals m
  cells : ∀ x c, (x, c) ∈ env.cells → ∃ v, h.IsCell c v
  apart : env.cells.Pairwise (fun x y => x.2 ≠ y.2)
  has : ∀ x, env.kindOf x = some .cell ∨ env.kindOf x = some .free → ∃ c, env.cells.lookup x = some c
  lg : env.locals ≠ mainGlobals
  lb : env.locals ≠ builtinsNs
  look : ∀ x d, ρ.lookup x = some d → ∃ v, Look h env x v ∧ Rep h X v d
  own : OwnOK o X h env
/-- a name's value in another heap: where its places are as they were -/
theorem Look.map {h h' : Heap} {env : Env} {x : Str} {v : Value} (l : Look h env x v) (kn : ∀ a m, (a = env.locals ∨ a = mainGlobals ∨ a = builtinsNs) → h.Ns a m → ∃ m', h'.Ns a m' ∧ m' x = m x) (kc : ∀ c v, env.cells.lookup x = some c → h.IsCell c v → h'.IsCell c v) : Look h' env x v := by
  cases l with
  | loc a b c => obtain ⟨m', n, e⟩ := kn _ _ (.inl rfl) b; exact .loc a n (e.trans c)
  | cell a b c => exact .cell a b (kc _ _ b c)
  | free a b c d => exact .free a b c (kc _ _ c d)
  | glob a b c => obtain ⟨m', n, e⟩ := kn _ _ (.inr (.inl rfl)) b; exact .glob a n (e.trans c)
  | built a b c d e => obtain ⟨m₁, n₁, e₁⟩ := kn _ _ (.inr (.inl rfl)) b; obtain ⟨m₂, n₂, e₂⟩ := kn _ _ (.inr (.inr rfl)) d; exact .built a n₁ (e₁.trans c) n₂ (e₂.trans e)
theorem Look.keeps {h h' : Heap} {env : Env} {x : Str} {v : Value} (l : Look h env x v) (k : Keep h h') : Look h' env x v := l.map (fun _ m _ n => ⟨m, k.ns n, rfl⟩) fun _ _ _ q => k.cell q
theorem Look.but {h h' : Heap} {env : Env} {x : Str} {v : Value} {b : Addr} (l : Look h env x v) (hs : Heap.SameBut b h h') (hn : ∀ m, ¬ h.Ns b m) (hc : ∀ v, env.cells.lookup x = some b → ¬ h.IsCell b v) : Look h' env x v :=
  l.map (fun _ m _ n => ⟨m, n.sameBut hs fun e => hn m (e ▸ n), rfl⟩) fun _ v hx q => q.sameBut hs fun e => hc v (e ▸ hx) (e ▸ q)
theorem Plain.keeps {h h' : Heap} {T : String} {a : Addr} {vs : List Value} (p : Plain h T a vs) (k : Keep h h') : Plain h' T a vs := by obtain ⟨n, e⟩ := p; exact ⟨n, k.at' _ _ e rfl⟩
theorem Rep.keeps {h h' : Heap} {X : List Addr} {v : Value} {d : D} (r : Rep h X v d) (k : Keep h h') : Rep h' X v d := r.keep k.seq
theorem Reps.keeps {h h' : Heap} {X : List Addr} {v : List Value} {d : List D} (r : Reps h X v d) (k : Keep h h') : Reps h' X v d := r.keep k.seq
theorem OwnOK.to {o : Own} {X : List Addr} {h h' : Heap} {env : Env} (w : OwnOK o X h env) (k0 : ∀ b, Here h b → Here h' b) (k1 : ∀ y ds u, o = some (y, ds) → Look h env y u → Look h' env y u) (k2 : SeqKeep [] h h') : OwnOK o X h' env := by
  cases o with
  | none => exact Alive.to w k0
  | some p =>
    obtain ⟨y, ds⟩ := p
    obtain ⟨a, vs, X₀, e, e₁, e₂, l, p, q, r⟩ := w
    exact ⟨a, vs, X₀, e, e₁, e₂.to k0, k1 _ _ _ rfl l, p.keep k2 List.not_mem_nil, q, r.keep fun a T vs n _ e => k2 a T vs n List.not_mem_nil e⟩
theorem OwnOK.keeps {o : Own} {X : List Addr} {h h' : Heap} {env : Env} (w : OwnOK o X h env) (k : Keep h h') : OwnOK o X h' env := w.to (fun _ ⟨_, e⟩ => k.here e) (fun _ _ _ _ l => l.keeps k) k.seq
theorem EnvOK.keeps {o : Own} {X : List Addr} {h h' : Heap} {env : Env} {ρ : List (Str × D)} (w : EnvOK o X h env ρ) (k : Keep h h') : EnvOK o X h' env ρ :=
  ⟨w.kind, w.glob, w.built, by obtain ⟨m, n⟩ := w.ns; exact ⟨m, k.ns n⟩, fun x c hc => by obtain ⟨v, hv⟩ := w.cells x c hc; exact ⟨v, k.cell hv⟩, w.apart, w.has, w.lg, w.lb,
    fun x d e => by obtain ⟨v, l, r⟩ := w.look x d e; exact ⟨v, l.keeps k, r.keeps k⟩, w.own.keeps k⟩
theorem EnvOK.sub {o : Own} {X : List Addr} {h : Heap} {env : Env} {ρ ρ' : List (Str × D)} (w : EnvOK o X h env ρ) (k : ∀ x d, ρ'.lookup x = some d → ρ.lookup x = some d) : EnvOK o X h env ρ' :=
  { w with look := fun x d e => w.look x d (k x d e) }
section
variable {M : Model} {A : Around} {E : Value → Shared → Prop} {s : Shared} {env : Env}
theorem wpAny_loadGlobal {x : Str} {v : Value} {mg mb : Str → Option Value} {Q : Value → Shared → Prop} (hg : s.heap.Ns env.globals mg) (hb : mg x = some v ∨ (mg x = none ∧ s.heap.Ns env.builtins mb ∧ mb x = some v)) (h : Q v s) :
    wpAny M A (loadGlobal env x) Q E s := by
  unfold loadGlobal
  refine wpAny_bind (wpAny_nsGet hg ?_)
  rcases hb with e | ⟨e, n, e'⟩
  · rw [e]; exact wpAny_pure h
  · rw [e]
    refine wpAny_bind (wpAny_nsGet n ?_)
    rw [e']; exact wpAny_pure h
theorem loadName_glob {x : Str} (hk : env.scope.kind = .function) (a : env.kindOf x = some .globalImplicit) : loadName env x = loadGlobal env x := by
  unfold loadName
  simp only [Env.blockKind, hk, a, ScopeKind.isAnnotationScope, Bool.false_and, Bool.false_eq_true, if_false]
theorem wpAny_loadName_look {x : Str} {v : Value} {Q : Value → Shared → Prop} (hk : env.scope.kind = .function) (hg : env.globals = mainGlobals) (hb : env.builtins = builtinsNs) (l : Look s.heap env x v) (h : Q v s) :
    wpAny M A (loadName env x) Q E s := by
  cases l with
  | loc a b c => exact wpAny_loadName_local hk a b c h
  | cell a b c => exact wpAny_loadName_cell hk a b c h
  | free a b c d => exact wpAny_loadName_free hk a c d h b
  | glob a b c => rw [loadName_glob hk a]; exact wpAny_loadGlobal (mb := fun _ => none) (hg ▸ b) (.inl c) h
  | built a b c d e => rw [loadName_glob hk a]; exact wpAny_loadGlobal (hg ▸ b) (.inr ⟨c, hb ▸ d, e⟩) h
end
/-- a name that the frame can store -/
inductive Stores (env : Env) (x : Str) : Prop
  | loc : env.kindOf x = some .local → Stores env x
  | cell {c : Addr} : env.kindOf x = some .cell → env.cells.lookup x = some c → Stores env x
theorem look_after_local {h h' : Heap} {env : Env} {x y : Str} {v u : Value} {m : Str → Option Value} (lg : env.locals ≠ mainGlobals) (lb : env.locals ≠ builtinsNs)
    (hn : h.Ns env.locals m) (hn' : h'.Ns env.locals (fun z => if z = x then some v else m z)) (hs : Heap.SameBut env.locals h h') (hne : y ≠ x) (l : Look h env y u) : Look h' env y u :=
  l.map (fun a m' hp n => by
    rcases hp with e | e | e
    · subst e; exact ⟨_, hn', by rw [if_neg hne, Ns.uniq hn n]⟩
    · exact ⟨m', n.sameBut hs fun q => lg (q.symm.trans e), rfl⟩
    · exact ⟨m', n.sameBut hs fun q => lb (q.symm.trans e), rfl⟩) fun _ _ _ q => q.sameBut hs (ns_ne_cell hn q).symm
theorem look_after_cell {h h' : Heap} {env : Env} {x y : Str} {c : Addr} {u : Value} {v₀ : Option Value} (ap : env.cells.Pairwise (fun x y => x.2 ≠ y.2))
    (hx : env.cells.lookup x = some c) (hc : h.IsCell c v₀) (hs : Heap.SameBut c h h') (hne : y ≠ x) (l : Look h env y u) : Look h' env y u :=
  l.but hs (fun _ n => ns_ne_cell n hc rfl) fun _ q _ => hne (name_of_addr ap (mem_of_lookup q) (mem_of_lookup hx))
theorem SeqKeep.sameBut {X : List Addr} {h h' : Heap} {b : Addr} (hs : Heap.SameBut b h h') (hb : ∀ T vs n, h.get? b = some { cls := .type T, data := .seq vs n } → False) : SeqKeep X h h' :=
  fun a T vs n _ e => by rw [hs.2 a (by rintro rfl; exact hb _ _ _ e)]; exact e
/-- a store of the frame's: which address it turns -/
structure Turned (env : Env) (x : Str) (h h' : Heap) (b : Addr) : Prop where
  place : b = env.locals ∨ env.cells.lookup x = some b
  same : Heap.SameBut b h h'
section
variable {M : Model} {A : Around} {E : Value → Shared → Prop} {s : Shared} {env : Env} {o : Own} {X : List Addr} {ρ : List (Str × D)}
theorem EnvOK.stored {x : Str} {v : Value} {d : D} {h h' : Heap} (W : EnvOK o X h env ρ) (ho : ∀ y ds, o = some (y, ds) → y ≠ x) (r : Rep h X v d) (k0 : ∀ b, Here h b → Here h' b) (k1 : ∀ y u, y ≠ x → Look h env y u → Look h' env y u) (k2 : Look h' env x v) (k3 : ∃ m', h'.Ns env.locals m')
    (k4 : ∀ c v, h.IsCell c v → ∃ v', h'.IsCell c v') (k6 : ∀ Y, SeqKeep Y h h') : EnvOK o X h' env ((x, d) :: ρ) := by
  refine ⟨W.kind, W.glob, W.built, k3, fun y c hc => (W.cells y c hc).elim (k4 c), W.apart, W.has, W.lg, W.lb, fun y e hy => ?_, W.own.to k0 (fun y ds u e l => k1 y u (ho y ds e) l) (k6 [])⟩
  rw [List.lookup_cons] at hy
  by_cases hb : y = x
  · rw [beq_iff_eq.mpr hb] at hy
    exact ⟨v, hb ▸ k2, Option.some.inj hy ▸ r.keep (k6 X)⟩
  · rw [beq_eq_false_iff_ne.mpr hb] at hy
    exact (W.look y e hy).elim fun u q => ⟨u, k1 y u hb q.1, q.2.keep (k6 X)⟩
theorem wpAny_store {x : Str} {v : Value} {d : D} {Q : Unit → Shared → Prop} (W : EnvOK o X s.heap env ρ) (hx : Stores env x) (ho : ∀ y ds, o = some (y, ds) → y ≠ x) (r : Rep s.heap X v d)
    (h : ∀ h' tk b, EnvOK o X h' env ((x, d) :: ρ) → Turned env x s.heap h' b → Q () { s with heap := h', toks := tk }) : wpAny M A (storeName env x v) Q E s := by
  obtain ⟨m, hn⟩ := W.ns
  cases hx with
  | loc hl =>
    exact wpAny_storeName_local hl hn (fun h' hn' hs' => h h' _ env.locals (W.stored ho r (here_sameBut hs' (here_of_ns hn')) (fun y u hne l => look_after_local W.lg W.lb hn hn' hs' hne l) (.loc hl hn' (if_pos rfl)) ⟨_, hn'⟩ (fun y c hv => ⟨c, hv.sameBut hs' (ns_ne_cell hn hv).symm⟩)
      fun _ => .sameBut hs' fun _ _ _ e => not_seq_of_ns hn e) ⟨.inl rfl, hs'⟩) (by rw [W.kind]; rfl)
  | @cell c hl hc =>
    obtain ⟨v₀, hv₀⟩ := W.cells x c (mem_of_lookup hc)
    refine wpAny_storeName_cell W.kind hl hc hv₀ (fun h' hc' hs' => h h' s.toks c (W.stored ho r (here_sameBut hs' (here_of_cell hc')) (fun y u hne l => look_after_cell W.apart hc hv₀ hs' hne l) (.cell hl hc hc') ⟨m, hn.sameBut hs' (ns_ne_cell hn hv₀)⟩ (fun c₂ v hv => ?_)
      fun _ => .sameBut hs' fun _ _ _ e => not_seq_of_cell hv₀ e) ⟨.inr hc, hs'⟩)
    by_cases e : c₂ = c
    · exact ⟨_, e ▸ hc'⟩
    · exact ⟨v, hv.sameBut hs' e⟩
end
/-- a name that the frame can store, by its kind -/
theorem EnvOK.stores {o : Own} {X : List Addr} {h : Heap} {env : Env} {ρ : List (Str × D)} (W : EnvOK o X h env ρ) {x : Str} (hx : env.kindOf x = some .local ∨ env.kindOf x = some .cell) : Stores env x := by
  rcases hx with hx | hx
  · exact .loc hx
  · obtain ⟨c, hc⟩ := W.has x (.inl hx); exact .cell hx hc
/-- where a frame stands to the state ahead of it; cl: the names of its closure -/
structure Base (cl : List Str) (s₀ : Shared) (env : Env) (s : Shared) : Prop where
  kp : Kp s₀ s
  loc : s₀.heap.get? env.locals = none
  cells : ∀ x c, env.cells.lookup x = some c → x ∈ cl ∨ s₀.heap.get? c = none
theorem Base.step {cl : List Str} {s₀ s s' : Shared} {env : Env} (b : Base cl s₀ env s) (k : Kp s s') : Base cl s₀ env s' := { b with kp := b.kp.trans k }
theorem Base.turn {cl : List Str} {s₀ s : Shared} {env : Env} {x : Str} {h' : Heap} {tk : Nat} {a : Addr} (b : Base cl s₀ env s) (hx : x ∉ cl) (t : Turned env x s.heap h' a) : Base cl s₀ env { s with heap := h', toks := tk } :=
  { b with kp := ⟨b.kp.heap.but fun c o e e' => by
      have hne : c ≠ a := by
        rintro rfl
        rcases t.place with q | q
        · rw [q, b.loc] at e; cases e
        · rcases b.cells _ _ q with q | q
          · exact hx q
          · rw [q] at e; cases e
      exact (t.same.2 c hne).trans e', b.kp.os, b.kp.gens⟩ }
end
section
open PySem PySem.W PyProof.Rows
variable [Lo]
structure Cfg where
  prog : Program
  w : World
  Wf : Heap → Prop
  keeps : ∀ h h' : Heap, Keep h h' → Wf h → Wf h'
  olds : ∀ h : Heap, Wf h → ∀ b, Lo.old b = true → Here h b
  gl : ∀ h : Heap, Wf h → Here h mainGlobals ∧ Here h builtinsNs
  glob : Str → Option D
  frames : Option (List Env)
  look : ∀ (h : Heap) (env : Env) (X : List Addr) (x : Str) (d : D), Wf h → env.globals = mainGlobals → env.builtins = builtinsNs → env.kindOf x = some .globalImplicit → glob x = some d → ∃ v, Look h env x v ∧ Rep h X v d
/-- the room around a step; where the frames around are told, they are these -/
structure OkA (c : Cfg) (n : Nat) (A : Around) : Prop where
  handled : A.handled = none
  depth : A.depth + n < recursionLimit
  units : A.units + 50 * n + 50 < cLine
  frames : ∀ l, c.frames = some l → A.frames = some l
theorem OkA.in1 {c : Cfg} {n : Nat} {A : Around} (h : OkA c (n + 1) A) : OkA c n A.in1 := ⟨h.1, by have := h.2; simp only [Around.in1_depth]; exact z406 this, by have := h.3; simp only [Around.in1_units]; exact z274 this, h.4⟩
theorem OkA.le {c : Cfg} {n m : Nat} {A : Around} (h : OkA c n A) (hm : m ≤ n) : OkA c m A := ⟨h.1, by have := h.2; exact z341 this hm, by have := h.3; exact z234 this hm, h.4⟩
noncomputable abbrev Names := List (Str × NameKind)
noncomputable abbrev Vars := List (Str × D)
/-- the end of a pure step: the value stands for d, all objects stand -/
noncomputable abbrev Good (X : List Addr) (d : D) (s : Shared) : Value → Shared → Prop := fun v s' => Rep s'.heap X v d ∧ Kp s s'
noncomputable abbrev Goods (X : List Addr) (ds : List D) (s : Shared) : List Value → Shared → Prop := fun vs s' => Reps s'.heap X vs ds ∧ Kp s s'
theorem EnvOK.alive {o : Own} {X : List Addr} {h : Heap} {env : Env} {ρ : Vars} (w : EnvOK o X h env ρ) : Alive X h := by
  have q := w.own
  clear w
  cases o with
  | none => exact q
  | some yd =>
    obtain ⟨y, ds⟩ := yd
    obtain ⟨a, vs, X₀, e, _, e₂, l, ⟨n, p⟩, _⟩ := q
    intro b hb
    rw [e] at hb
    rcases List.mem_cons.mp hb with e | hb
    · rw [e]; exact ⟨_, p⟩
    · exact e₂ b hb
/-- an expression's meaning -/
noncomputable def Ev (c : Cfg) (n : Nat) (names : Names) (o : Own) (ρ : Vars) (e : Expr) (d : D) : Prop :=
  ∀ (A : Around) (env : Env) (X : List Addr) (s : Shared) (E : Value → Shared → Prop), OkA c n A → env.scope.names = names → c.Wf s.heap → EnvOK o X s.heap env ρ →
    wpAny (model c.prog c.w) A (eval e env) (Good X d s) E s
/-- a test's meaning -/
noncomputable def Tr (c : Cfg) (n : Nat) (names : Names) (o : Own) (ρ : Vars) (e : Expr) (b : Bool) : Prop :=
  ∀ (A : Around) (env : Env) (X : List Addr) (s : Shared) (E : Value → Shared → Prop), OkA c n A → env.scope.names = names → c.Wf s.heap → EnvOK o X s.heap env ρ →
    wpAny (model c.prog c.w) A (isTrue e env (eval e env)) (fun t s' => t = b ∧ Kp s s') E s
/-- a row of expressions -/
noncomputable def Evs (c : Cfg) (n : Nat) (names : Names) (o : Own) (ρ : Vars) (es : List Expr) (ds : List D) : Prop :=
  ∀ (A : Around) (env : Env) (X : List Addr) (s : Shared) (E : Value → Shared → Prop) (pos : Pos), OkA c n A → env.scope.names = names → c.Wf s.heap → EnvOK o X s.heap env ρ →
    wpAny (model c.prog c.w) A (spliced (backTo pos (starEach es env))) (Goods X ds s) E s
/-- one, two values in, one out -/
noncomputable def Op1 (c : Cfg) (n : Nat) (f : Value → Sem Value) (d₁ d : D) : Prop :=
  ∀ (A : Around) (X : List Addr) (s : Shared) (E : Value → Shared → Prop) (v₁ : Value), OkA c n A → c.Wf s.heap → Alive X s.heap → Rep s.heap X v₁ d₁ →
    wpAny (model c.prog c.w) A (f v₁) (Good X d s) E s
noncomputable def Op2 (c : Cfg) (n : Nat) (f : Value → Value → Sem Value) (d₁ d₂ d : D) : Prop :=
  ∀ (A : Around) (X : List Addr) (s : Shared) (E : Value → Shared → Prop) (v₁ v₂ : Value), OkA c n A → c.Wf s.heap → Alive X s.heap → Rep s.heap X v₁ d₁ → Rep s.heap X v₂ d₂ →
    wpAny (model c.prog c.w) A (f v₁ v₂) (Good X d s) E s
noncomputable def Truth (c : Cfg) (n : Nat) (d : D) (b : Bool) : Prop :=
  ∀ (A : Around) (X : List Addr) (s : Shared) (E : Value → Shared → Prop) (v : Value), OkA c n A → c.Wf s.heap → Alive X s.heap → Rep s.heap X v d →
    wpAny (model c.prog c.w) A (truthy v) (fun t s' => t = b ∧ Kp s s') E s
/-- something that can be called: it needs no look at a caller's hands -/
inductive Callee (h : Heap) : Value → Prop
  | builtin (id : String) : Callee h (.builtin id)
  | type (T : String) : Callee h (.type T)
  | func {a : Addr} {o : Obj} {fd : FuncData} : h.get? a = some o → o.data = .func fd → Callee h (.ref a)
structure Fn (c : Cfg) (n : Nat) (f : Value) (ds : List D) (ks : List (Str × D)) (d : D) : Prop where
  callee : ∀ h, c.Wf h → Callee h f
  run : ∀ (A : Around) (X : List Addr) (s : Shared) (E : Value → Shared → Prop) (vs kvs : List Value), OkA c n A → c.Wf s.heap → Alive X s.heap → Reps s.heap X vs ds → Reps s.heap X kvs (ks.map (·.2)) →
    wpAny (model c.prog c.w) A (call f vs ((ks.map (·.1)).zip kvs)) (Good X d s) E s
section
variable {c : Cfg} {n : Nat} {names : Names} {o : Own} {ρ : Vars}
/-- two steps, one behind the other -/
theorem then_ {α : Type} {M : Model} {A : Around} {E : Value → Shared → Prop} {s : Shared} {t : Sem α} {P Q : α → Shared → Prop} (h : wpAny M A t P E s) (k : ∀ a s', P a s' → Q a s') : wpAny M A t Q E s := wpAny_mono h k fun _ _ e => e
theorem Good.trans {X : List Addr} {d : D} {s s' : Shared} (k : Kp s s') {v : Value} {s'' : Shared} (g : Good X d s' v s'') : Good X d s v s'' := ⟨g.1, k.trans g.2⟩
theorem Ev.int (i : Int) (k : Nat) (pos : Pos) : Ev c n names o ρ (.Constant (.int i) k pos) (.int i) := fun _ _ _ _ _ _ _ _ _ => wpAny_Constant_int ⟨.int _ _, .tok⟩
theorem Ev.str (x : Str) (k : Nat) (pos : Pos) (hx : x.length ≤ lim := by decide) : Ev c n names o ρ (.Constant (.str x) k pos) (.str x) := fun _ _ _ _ _ _ _ _ _ => wpAny_Constant_str ⟨.str _ _ hx, .tok⟩
theorem Ev.bool (b : Bool) (k : Nat) (pos : Pos) : Ev c n names o ρ (.Constant (.bool b) k pos) (.bool b) := fun _ _ _ _ _ _ _ _ _ => wpAny_Constant_bool ⟨.bool _, .refl _⟩
theorem Ev.name {x : Str} {pos : Pos} {d : D} (hx : ρ.lookup x = some d) (hd : (x == ("__debug__" : Str)) = false := by decide) : Ev c n names o ρ (.Name x pos) d :=
  fun _ _ _ s _ _ _ _ W => by
    obtain ⟨v, l, r⟩ := W.look x d hx
    exact wpAny_Name (wpAny_loadName_look W.kind W.glob W.built l ⟨r, .refl s⟩) hd
theorem Ev.glob {x : Str} {pos : Pos} {d : D} (hn : names.lookup x = some .globalImplicit) (hx : c.glob x = some d) (hd : (x == ("__debug__" : Str)) = false := by decide) : Ev c n names o ρ (.Name x pos) d :=
  fun _ env X s _ _ hne hW W => by
    obtain ⟨v, l, r⟩ := c.look s.heap env X x d hW W.glob W.built (by unfold Env.kindOf; rw [hne]; exact hn) hx
    exact wpAny_Name (wpAny_loadName_look W.kind W.glob W.built l ⟨r, .refl s⟩) hd
theorem Ev.bin {l r : Expr} {op : Operator} {pos : Pos} {d₁ d₂ d : D} (h₁ : Ev c n names o ρ l d₁) (h₂ : Ev c n names o ρ r d₂) (h : Op2 c n (binaryOp op) d₁ d₂ d) : Ev c n names o ρ (.BinOp l op r pos) d :=
  fun A env X s E hA hn hW W => wpAny_BinOp (then_ (h₁ A env X s E hA hn hW W) fun v₁ s₁ g₁ =>
    then_ (h₂ A env X s₁ E hA hn (c.keeps _ _ g₁.2.heap hW) (W.keeps g₁.2.heap)) fun v₂ s₂ g₂ =>
      then_ (h A X s₂ E v₁ v₂ hA (c.keeps _ _ (g₁.2.trans g₂.2).heap hW) (W.alive.keeps (g₁.2.trans g₂.2).heap) (g₁.1.kp g₂.2) g₂.1) fun _ _ g => g.trans (g₁.2.trans g₂.2))
theorem Ev.un {x : Expr} {op : UnaryOp} {pos : Pos} {d₁ d : D} (h₁ : Ev c n names o ρ x d₁) (h : Op1 c n (unaryOp op) d₁ d) : Ev c n names o ρ (.UnaryOp op x pos) d :=
  fun A env X s E hA hn hW W => wpAny_UnaryOp (then_ (h₁ A env X s E hA hn hW W) fun v₁ s₁ g₁ =>
      then_ (h A X s₁ E v₁ hA (c.keeps _ _ g₁.2.heap hW) (W.alive.keeps g₁.2.heap) g₁.1) fun _ _ g => g.trans g₁.2)
theorem Ev.cmp {l r : Expr} {op : CmpOp} {pos : Pos} {d₁ d₂ d : D} (h₁ : Ev c n names o ρ l d₁) (h₂ : Ev c n names o ρ r d₂) (h : Op2 c n (compareOp op) d₁ d₂ d) (hm : behindInMarks op r = false := by with_unfolding_all rfl) :
    Ev c n names o ρ (.Compare l [op] [r] pos) d :=
  fun A env X s E hA hn hW W => wpAny_Compare1 (then_ (h₁ A env X s E hA hn hW W) fun v₁ s₁ g₁ =>
    then_ (h₂ A env X s₁ E hA hn (c.keeps _ _ g₁.2.heap hW) (W.keeps g₁.2.heap)) fun v₂ s₂ g₂ =>
      then_ (h A X s₂ E v₁ v₂ hA (c.keeps _ _ (g₁.2.trans g₂.2).heap hW) (W.alive.keeps (g₁.2.trans g₂.2).heap) (g₁.1.kp g₂.2) g₂.1) fun _ _ g => g.trans (g₁.2.trans g₂.2)) hm
theorem Tr.cmp {l r : Expr} {op : CmpOp} {pos : Pos} {d₁ d₂ : D} {b : Bool} (h₁ : Ev c n names o ρ l d₁) (h₂ : Ev c n names o ρ r d₂) (h : Op2 c n (compareOp op) d₁ d₂ (.bool b)) (hm : behindInMarks op r = false := by with_unfolding_all rfl) :
    Tr c n names o ρ (.Compare l [op] [r] pos) b :=
  fun A env X s E hA hn hW W => wpAny_isTrue_Compare1 (then_ (h₁ A env X s E hA hn hW W) fun v₁ s₁ g₁ =>
    then_ (h₂ A env X s₁ E hA hn (c.keeps _ _ g₁.2.heap hW) (W.keeps g₁.2.heap)) fun v₂ s₂ g₂ =>
      then_ (h A X s₂ E v₁ v₂ hA (c.keeps _ _ (g₁.2.trans g₂.2).heap hW) (W.alive.keeps (g₁.2.trans g₂.2).heap) (g₁.1.kp g₂.2) g₂.1) fun v₃ s₃ g => by
        obtain ⟨r₃, k₃⟩ := g
        obtain rfl := r₃.inv
        exact wpAny_truthy_bool ⟨rfl, (g₁.2.trans g₂.2).trans k₃⟩) hm
theorem Tr.not {x : Expr} {pos : Pos} {b : Bool} (h : Tr c n names o ρ x b) : Tr c n names o ρ (.UnaryOp .Not x pos) (!b) :=
  fun A env X s E hA hn hW W => wpAny_isTrue_Not (then_ (h A env X s E hA hn hW W) fun _ _ g => ⟨by rw [g.1], g.2⟩)
/-- tests in a row -/
noncomputable def Trs (c : Cfg) (n : Nat) (names : Names) (o : Own) (ρ : Vars) (op : BoolOp) (es : List Expr) (b : Bool) : Prop :=
  ∀ (A : Around) (env : Env) (X : List Addr) (s : Shared) (E : Value → Shared → Prop), OkA c n A → env.scope.names = names → c.Wf s.heap → EnvOK o X s.heap env ρ →
    wpAny (model c.prog c.w) A (allTrue op es env) (fun t s' => t = b ∧ Kp s s') E s
theorem Trs.and_nil : Trs c n names o ρ .And [] true := fun _ _ _ s _ _ _ _ _ => wpAny_allTrue_And_nil ⟨rfl, .refl s⟩
theorem Trs.or_nil : Trs c n names o ρ .Or [] false := fun _ _ _ s _ _ _ _ _ => wpAny_allTrue_Or_nil ⟨rfl, .refl s⟩
theorem Trs.and_cons {x : Expr} {r : List Expr} {a b : Bool} (h : Tr c n names o ρ x a) (hr : a = true → Trs c n names o ρ .And r b) : Trs c n names o ρ .And (x :: r) (a && b) :=
  fun A env X s E hA hn hW W => wpAny_allTrue_And_cons (then_ (h A env X s E hA hn hW W) fun t s₁ g => by
    obtain ⟨rfl, k⟩ := g
    cases t with
    | false => simpa using k
    | true => simp only [if_true]; exact then_ (hr rfl A env X s₁ E hA hn (c.keeps _ _ k.heap hW) (W.keeps k.heap)) fun _ _ g => ⟨by simpa using g.1, k.trans g.2⟩)
theorem Trs.or_cons {x : Expr} {r : List Expr} {a b : Bool} (h : Tr c n names o ρ x a) (hr : a = false → Trs c n names o ρ .Or r b) : Trs c n names o ρ .Or (x :: r) (a || b) :=
  fun A env X s E hA hn hW W => wpAny_allTrue_Or_cons (then_ (h A env X s E hA hn hW W) fun t s₁ g => by
    obtain ⟨rfl, k⟩ := g
    cases t with
    | true => simpa using k
    | false => simp only [Bool.false_eq_true, if_false]; exact then_ (hr rfl A env X s₁ E hA hn (c.keeps _ _ k.heap hW) (W.keeps k.heap)) fun _ _ g => ⟨by simpa using g.1, k.trans g.2⟩)
theorem Tr.boolop {op : BoolOp} {es : List Expr} {pos : Pos} {b : Bool} (h : Trs c n names o ρ op es b) : Tr c n names o ρ (.BoolOp op es pos) b :=
  fun A env X s E hA hn hW W => wpAny_isTrue_BoolOp (h A env X s E hA hn hW W)
/-- a test that is its value's truth -/
theorem Tr.val {e : Expr} {d : D} {b : Bool} (h : Ev c n names o ρ e d) (ht : Truth c n d b) (he : ∀ (env : Env) (whole : Sem Value), isTrue e env whole = (do let v ← whole; standAt e.pos; holding [v] (truthy v)) := by exact fun _ _ => rfl) : Tr c n names o ρ e b :=
  fun A env X s E hA hn hW W => wpAny_isTrue_value (then_ (h A env X s E hA hn hW W) fun v s₁ g => then_ (ht A X s₁ E v hA (c.keeps _ _ g.2.heap hW) (W.alive.keeps g.2.heap) g.1) fun _ _ q => ⟨q.1, g.2.trans q.2⟩) (he env _)
theorem Truth.bool (b : Bool) : Truth c n (.bool b) b := fun A X s E v hA hW hX r => by obtain rfl := r.inv; exact wpAny_truthy_bool ⟨rfl, .refl s⟩
/-- and, or as values, all of them bools -/
theorem Ev.and2 {x y : Expr} {pos : Pos} {a b : Bool} (h₁ : Ev c n names o ρ x (.bool a)) (h₂ : a = true → Ev c n names o ρ y (.bool b)) : Ev c n names o ρ (.BoolOp .And [x, y] pos) (.bool (a && b)) :=
  fun A env X s E hA hn hW W => wpAny_And2 (then_ (h₁ A env X s E hA hn hW W) fun v s₁ g => by
    obtain ⟨r, k⟩ := g
    obtain rfl := r.inv
    refine wpAny_truthy_bool ?_
    cases a with
    | false => simp only [Bool.false_eq_true, if_false]; exact ⟨.bool _, k⟩
    | true => simp only [if_true]; exact then_ (h₂ rfl A env X s₁ E hA hn (c.keeps _ _ k.heap hW) (W.keeps k.heap)) fun _ _ g => ⟨by simpa using g.1, k.trans g.2⟩)
theorem eval_and3 (x y z : Expr) (pos : Pos) (env : Env) : eval (.BoolOp .And [x, y, z] pos) env = (do let v ← eval x env; standAt pos; let t ← holding [v] (truthy v); match t with | false => pure v | true => eval (.BoolOp .And [y, z] pos) env) := by
  show boolOp pos .And [eval x env, eval y env, eval z env] = _
  rw [boolOp]
  · congr 1; funext v; congr 1; funext _; congr 1; funext t
    cases t <;> rfl
  · simp
theorem Ev.and3 {x y z : Expr} {pos : Pos} {a b : Bool} (h₁ : Ev c n names o ρ x (.bool a)) (h₂ : a = true → Ev c n names o ρ (.BoolOp .And [y, z] pos) (.bool b)) : Ev c n names o ρ (.BoolOp .And [x, y, z] pos) (.bool (a && b)) :=
  fun A env X s E hA hn hW W => by
    rw [eval_and3]
    refine wpAny_bind (then_ (h₁ A env X s E hA hn hW W) fun v s₁ g => wpAny_bind (wpAny_standAt (wpAny_bind (wpAny_holding ?_))))
    obtain ⟨r, k⟩ := g
    obtain rfl := r.inv
    refine wpAny_truthy_bool ?_
    cases a with
    | false => exact wpAny_pure ⟨.bool _, k⟩
    | true => exact then_ (h₂ rfl A env X s₁ E hA hn (c.keeps _ _ k.heap hW) (W.keeps k.heap)) fun _ _ g => ⟨by simpa using g.1, k.trans g.2⟩
theorem Ev.ifexp {t x y : Expr} {pos : Pos} {b : Bool} {d : D} (h : Tr c n names o ρ t b) (h₁ : b = true → Ev c n names o ρ x d) (h₂ : b = false → Ev c n names o ρ y d) : Ev c n names o ρ (.IfExp t x y pos) d :=
  fun A env X s E hA hn hW W => wpAny_IfExp (then_ (h A env X s E hA hn hW W) fun t s₁ g => by
    obtain ⟨rfl, k⟩ := g
    cases t with
    | true => simp only [if_true]; exact then_ (h₁ rfl A env X s₁ E hA hn (c.keeps _ _ k.heap hW) (W.keeps k.heap)) fun _ _ g => g.trans k
    | false => simp only [Bool.false_eq_true, if_false]; exact then_ (h₂ rfl A env X s₁ E hA hn (c.keeps _ _ k.heap hW) (W.keeps k.heap)) fun _ _ g => g.trans k)
theorem Evs.nil : Evs c n names o ρ [] [] := fun _ _ _ s _ _ _ _ _ _ => wpAny_items_nil ⟨.nil, .refl s⟩
theorem starEach_plain {e : Expr} {rest : List Expr} {env : Env} (h : isStarred e = false) : starEach (e :: rest) env = (false, eval e env) :: starEach rest env := by
  cases e <;> first | rfl | exact nomatch h
theorem Evs.cons {e : Expr} {rest : List Expr} {d : D} {ds : List D} (h : Ev c n names o ρ e d) (hr : Evs c n names o ρ rest ds) (he : isStarred e = false := by rfl) : Evs c n names o ρ (e :: rest) (d :: ds) :=
  fun A env X s E pos hA hn hW W => wpAny_items_cons (then_ (h A env X s E hA hn hW W) fun v s₁ g =>
    then_ (hr A env X s₁ E pos hA hn (c.keeps _ _ g.2.heap hW) (W.keeps g.2.heap)) fun vs s₂ g₂ => ⟨.cons (g.1.kp g₂.2) g₂.1, g.2.trans g₂.2⟩) (starEach_plain he)
theorem lim_sizeLine {k : Nat} (h : k ≤ lim) : k ≤ sizeLine := Nat.le_trans h (by decide)
/-- a new sequence object -/
theorem Rep.newList {s : Shared} {X : List Addr} {vs : List Value} {ds : List D} {tk n : Nat} (a : Alive X s.heap) (r : Reps s.heap X vs ds) (hl : ds.length ≤ lim) :
    Good X (.list ds) s (.ref s.heap.objs.size) { s with heap := s.heap.push { cls := .type "list", data := .seq vs.toArray n }, toks := tk } :=
  ⟨.list a.new ⟨n, Heap.get?_push_size _ rfl⟩ hl (r.keeps (.of fun _ _ e => Heap.get?_push_of_some _ e)), .push⟩
theorem Rep.newTup {s : Shared} {X : List Addr} {vs : List Value} {ds : List D} {tk n : Nat} (a : Alive X s.heap) (r : Reps s.heap X vs ds) (hl : ds.length ≤ lim) :
    Good X (.tup ds) s (.ref s.heap.objs.size) { s with heap := s.heap.push { cls := .type "tuple", data := .seq vs.toArray n }, toks := tk } :=
  ⟨.tup a.new ⟨n, Heap.get?_push_size _ rfl⟩ hl (r.keeps (.of fun _ _ e => Heap.get?_push_of_some _ e)), .push⟩
theorem Ev.list {es : List Expr} {ds : List D} {pos : Pos} (h : Evs c n names o ρ es ds) (hl : ds.length ≤ lim := by decide) : Ev c n names o ρ (.List es pos) (.list ds) :=
  fun A env X s E hA hn hW W => wpAny_List (then_ (h A env X s E pos hA hn hW W) fun vs s₁ g => ⟨by rw [g.1.length]; exact lim_sizeLine hl, (Rep.newList (W.alive.keeps g.2.heap) g.1 hl).trans g.2⟩)
theorem Ev.tup {es : List Expr} {ds : List D} {k : Nat} {pos : Pos} (h : Evs c n names o ρ es ds) (hl : ds.length ≤ lim := by decide) : Ev c n names o ρ (.Tuple es k pos) (.tup ds) :=
  fun A env X s E hA hn hW W => wpAny_Tuple (then_ (h A env X s E pos hA hn hW W) fun vs s₁ g => ⟨by rw [g.1.length]; exact lim_sizeLine hl, (Rep.newTup (W.alive.keeps g.2.heap) g.1 hl).trans g.2⟩)
end
end
section
open PySem PySem.W PyProof.Rows
variable [Lo]
section
variable {c : Cfg} {n : Nat}
theorem Kp.toks (s : Shared) (t : Nat) : Kp s { s with toks := t } := .tok
theorem intBits_small {a : Int} (h : a.natAbs < 2 ^ 60) : Builtin.Int.intBits a ≤ 64 := by
  unfold Builtin.Int.intBits
  split
  · exact z557
  · have : a.natAbs.log2 < 60 := (Nat.log2_lt (by intro e; simp_all)).mpr h
    exact z443 this
theorem Op2.iadd (a b : Int) : Op2 c n (binaryOp .Add) (.int a) (.int b) (.int (a + b)) := fun A X s E v w _ _ _ r q => by obtain ⟨_, rfl⟩ := r.inv; obtain ⟨_, rfl⟩ := q.inv; exact P.add_int ⟨.int _ _, .tok⟩
theorem Op2.isub (a b : Int) : Op2 c n (binaryOp .Sub) (.int a) (.int b) (.int (a - b)) := fun A X s E v w _ _ _ r q => by obtain ⟨_, rfl⟩ := r.inv; obtain ⟨_, rfl⟩ := q.inv; exact P.sub_int ⟨.int _ _, .tok⟩
theorem Op2.imul (a b : Int) (h : a.natAbs < 2 ^ 60 ∨ b.natAbs < 2 ^ 60) : Op2 c n (binaryOp .Mult) (.int a) (.int b) (.int (a * b)) := fun A X s E v w _ _ _ r q => by
  obtain ⟨_, rfl⟩ := r.inv; obtain ⟨_, rfl⟩ := q.inv; exact P.mul_int ⟨.int _ _, .tok⟩ (h.elim (fun h => .of_left (intBits_small h)) fun h => .of_right (intBits_small h))
theorem Op2.imod (a b : Int) (hb : 0 < b) (hs : b < 1073741824) : Op2 c n (binaryOp .Mod) (.int a) (.int b) (.int (a % b)) := fun A X s E v w hA _ _ r q => by
  obtain ⟨_, rfl⟩ := r.inv; obtain ⟨_, rfl⟩ := q.inv
  rw [← Int.fmod_eq_emod_of_nonneg a (Int.le_of_lt hb)]
  exact mod_int_or hA.handled (fun e => absurd e (by exact z506 hb hs e)) fun _ => ⟨.int _ _, .tok⟩
theorem Op2.idiv (a b : Int) (hb : 0 < b) (hs : b < 1073741824) : Op2 c n (binaryOp .FloorDiv) (.int a) (.int b) (.int (a / b)) := fun A X s E v w _ _ _ r q => by
  obtain ⟨_, rfl⟩ := r.inv; obtain ⟨_, rfl⟩ := q.inv
  rw [← Int.fdiv_eq_ediv_of_nonneg a (Int.le_of_lt hb)]
  exact floordiv_int (by exact z507 hb hs) ⟨.int _ _, .tok⟩ (.inl (PyProof.noPylong_small (by exact z349 hb hs)))
theorem Op1.ineg (a : Int) : Op1 c n (unaryOp .USub) (.int a) (.int (-a)) := fun A X s E v _ _ _ r => by obtain ⟨_, rfl⟩ := r.inv; exact P.neg_int ⟨.int _ _, .tok⟩
theorem Op2.ilt (a b : Int) : Op2 c n (compareOp .Lt) (.int a) (.int b) (.bool (decide (a < b))) := fun A X s E v w _ _ _ r q => by obtain ⟨_, rfl⟩ := r.inv; obtain ⟨_, rfl⟩ := q.inv; exact P.lt_int ⟨.bool _, .refl _⟩
theorem Op2.ile (a b : Int) : Op2 c n (compareOp .LtE) (.int a) (.int b) (.bool (decide (a ≤ b))) := fun A X s E v w _ _ _ r q => by obtain ⟨_, rfl⟩ := r.inv; obtain ⟨_, rfl⟩ := q.inv; exact P.le_int ⟨.bool _, .refl _⟩
theorem Op2.igt (a b : Int) : Op2 c n (compareOp .Gt) (.int a) (.int b) (.bool (decide (b < a))) := fun A X s E v w _ _ _ r q => by obtain ⟨_, rfl⟩ := r.inv; obtain ⟨_, rfl⟩ := q.inv; exact P.gt_int ⟨.bool _, .refl _⟩
theorem Op2.ige (a b : Int) : Op2 c n (compareOp .GtE) (.int a) (.int b) (.bool (decide (b ≤ a))) := fun A X s E v w _ _ _ r q => by obtain ⟨_, rfl⟩ := r.inv; obtain ⟨_, rfl⟩ := q.inv; exact P.ge_int ⟨.bool _, .refl _⟩
theorem Op2.ieq (a b : Int) : Op2 c n (compareOp .Eq) (.int a) (.int b) (.bool (decide (a = b))) := fun A X s E v w _ _ _ r q => by
  obtain ⟨_, rfl⟩ := r.inv; obtain ⟨_, rfl⟩ := q.inv; exact P.eq_int ⟨by rw [show (a == b) = decide (a = b) from rfl]; exact .bool _, .refl _⟩
theorem Truth.str (x : Str) : Truth c n (.str x) (decide (x.length ≠ 0)) := fun A X s E v _ _ _ r => by
  obtain ⟨t, hx, rfl⟩ := r.inv
  exact P.truthy_str (by simp [lim] at hx; exact z512 hx) ⟨by by_cases h : x.length = 0 <;> simp [h], .tok⟩
theorem Op2.sadd (x y : Str) (h : x.length + y.length ≤ lim) : Op2 c n (binaryOp .Add) (.str x) (.str y) (.str (x ++ y)) := fun A X s E v w _ _ _ r q => by
  obtain ⟨t, hx, rfl⟩ := r.inv
  cases q with
    | str _ u hy => exact SB.add (fun t' k => ⟨.str _ _ (by rw [Str.length_append]; exact h), .tok⟩) (lim_sizeLine h)
theorem Op2.seq (x y : Str) : Op2 c n (compareOp .Eq) (.str x) (.str y) (.bool (decide (x = y))) := fun A X s E v w _ _ _ r q => by
  obtain ⟨_, _, rfl⟩ := r.inv; obtain ⟨_, _, rfl⟩ := q.inv; exact eq_str ⟨by rw [show (x == y) = decide (x = y) from by rw [Bool.eq_iff_iff]; simp]; exact .bool _, .refl _⟩
theorem Op2.snotin (x y : Str) : Op2 c n (compareOp .NotIn) (.str y) (.str x) (.bool (!Txt.contains x y)) := fun A X s E v w _ _ _ r q => by
  obtain ⟨_, _, rfl⟩ := r.inv; obtain ⟨_, _, rfl⟩ := q.inv; exact SB.notContains ⟨.bool _, .refl _⟩
end
end
section
open PySem PySem.W PyProof.Rows
variable [Lo]
/-- Python's bounds of a cut with step one -/
noncomputable def clp (n : Nat) (d : Nat) : Option Int → Nat
  | none => d
  | some i => (max 0 (min (if i < 0 then i + n else i) n)).toNat
noncomputable def slc {α : Type} (lo hi : Option Int) (xs : List α) : List α := (xs.drop (clp xs.length 0 lo)).take (clp xs.length xs.length hi - clp xs.length 0 lo)
theorem filterMap_range {α : Type} (xs : List α) (a : Nat) : ∀ k, a + k ≤ xs.length → ((List.range k).map (a + ·)).filterMap (xs[·]?) = (xs.drop a).take k
  | 0, _ => by simp
  | k + 1, h => by
    rw [List.range_succ, List.map_append, List.filterMap_append, filterMap_range xs a k (by exact z403 h), List.take_add_one]
    congr 1
    have hl : a + k < xs.length := by exact z420 h
    simp [List.getElem?_drop, hl]
theorem clp_le (n d : Nat) (hd : d ≤ n) (o : Option Int) : clp n d o ≤ n := by
  cases o with
  | none => exact hd
  | some i => simp only [clp]; omega
theorem pick_eq {α : Type} (xs : List α) (lo hi : Option Int) : ((List.range (clp xs.length xs.length hi - clp xs.length 0 lo)).map (clp xs.length 0 lo + ·)).filterMap (xs[·]?) = slc lo hi xs := by
  unfold slc
  by_cases h : clp xs.length 0 lo ≤ clp xs.length xs.length hi
  · exact filterMap_range xs _ _ (by have := clp_le xs.length xs.length (Nat.le_refl _) hi; exact z252 h this)
  · have e : clp xs.length xs.length hi - clp xs.length 0 lo = 0 := by exact z295 h
    simp [e]
theorem clip_eq (n d : Nat) (hd : d ≤ n) (o : Option Int) : (match o with | none => (d : Int) | some i => max 0 (min (if i < 0 then i + n else i) (n : Int))) = ((clp n d o : Nat) : Int) := by
  cases o with
  | none => rfl
  | some i => simp only [clp]; omega
theorem sliceBounds_one (lo hi : Option Int) (n : Nat) : sliceBounds lo hi none n = (((clp n 0 lo : Nat) : Int), ((clp n n hi : Nat) : Int), (1 : Int)) := by
  rw [← clip_eq n 0 (by exact z523) lo, ← clip_eq n n (by exact z513) hi]
  unfold sliceBounds
  have h1 : (1 : Int) > 0 := by decide
  simp only [Option.getD_none, h1, if_true]
  cases lo <;> cases hi <;> rfl
theorem slicePick_eq (items : Array Value) (lo hi : Option Int) : (slicePick items lo hi none).toList = slc lo hi items.toList := by
  unfold slicePick
  rw [sliceBounds_one]
  simp only [sliceRange_one]
  have := pick_eq items.toList lo hi
  simp only [Array.length_toList] at this
  rw [← this]
  simp
theorem slicePicked_eq (x : Str) (l u : Option (Int × Tok)) : ((slicePicked x l u none).filterMap (x.cps[·]?)) = slc (l.map (·.1)) (u.map (·.1)) x.cps.toList := by
  unfold slicePicked Builtin.Str.strSliceIndices
  have h1 : (1 : Int) > 0 := by decide
  simp only [Option.map_none, Option.getD_none, h1, if_true]
  have e1 := clip_eq x.length 0 (by exact z523) (l.map (·.1))
  have e2 := clip_eq x.length x.length (by exact z513) (u.map (·.1))
  rw [← pick_eq]
  have hl : x.cps.toList.length = x.length := by simp [Str.length]
  rw [hl]
  have e3 : ∀ a b : Int, a = ((clp x.length 0 (l.map (·.1)) : Nat) : Int) → b = ((clp x.length x.length (u.map (·.1)) : Nat) : Int) → sliceRange a b 1 = (List.range (clp x.length x.length (u.map (·.1)) - clp x.length 0 (l.map (·.1)))).map (clp x.length 0 (l.map (·.1)) + ·) := by
    rintro a b rfl rfl; exact sliceRange_one _ _
  rw [e3 _ _ (by rw [← e1]; cases l <;> rfl) (by rw [← e2]; cases u <;> rfl)]
  simp
theorem slc_length {α : Type} (lo hi : Option Int) (xs : List α) : (slc lo hi xs).length ≤ xs.length := by unfold slc; simp only [List.length_take, List.length_drop]; exact z31
theorem slc_full {α : Type} {lo hi : Option Int} {xs : List α} (h : (slc lo hi xs).length = xs.length) : slc lo hi xs = xs := by
  unfold slc at *
  have h1 := clp_le xs.length xs.length (Nat.le_refl _) hi
  have h2 := clp_le xs.length 0 (Nat.zero_le _) lo
  simp only [List.length_take, List.length_drop] at h
  by_cases hz : clp xs.length 0 lo = 0
  · rw [hz] at h ⊢
    rw [List.drop_zero, List.take_of_length_le (by exact z146 h)]
  · have : xs.length = 0 := by exact z28 h h1 h2 hz
    simp [List.eq_nil_of_length_eq_zero this]
theorem str_eta (x : Str) : (⟨x.cps.toList.toArray⟩ : Str) = x := by cases x; simp
noncomputable def strCut (lo hi : Option Int) (x : Str) : Str := ⟨(slc lo hi x.cps.toList).toArray⟩
theorem strCut_length (lo hi : Option Int) (x : Str) : (strCut lo hi x).length ≤ x.length := by
  have := slc_length lo hi x.cps.toList
  simpa [strCut, Str.length] using this
theorem sliceMade_post {x : Str} {t : Tok} {l u : Option (Int × Tok)} {Q : Value → Shared → Prop} {s : Shared} (hx : x.length ≤ lim) (h : ∀ t' k, Q (.str (strCut (l.map (·.1)) (u.map (·.1)) x) t') { s with toks := k }) : (sliceMade x t l u none).post Q s := by
  have e := slicePicked_eq x l u
  have hb := strCut_length (l.map (·.1)) (u.map (·.1)) x
  unfold strCut at h hb
  rw [← e] at h hb
  unfold sliceMade
  by_cases hc : ((((none : Option (Int × Tok)).map (·.1)).getD 1 == 1 && (slicePicked x l u none).length == x.length) = true)
  · rw [if_pos hc]
    have h' := h t s.toks
    have : slc (l.map (·.1)) (u.map (·.1)) x.cps.toList = x.cps.toList := by
      refine slc_full ?_
      rw [← e]
      simp only [Option.map_none, Option.getD_none, beq_self_eq_true, Bool.true_and, beq_iff_eq] at hc
      have hl : x.cps.toList.length = x.length := by simp [Str.length]
      rw [hl, ← hc]
      -- every picked place lies within
      have hin : ∀ k ∈ slicePicked x l u none, (x.cps[k]?).isSome = true := by
        have e3 : slicePicked x l u none = (List.range (clp x.length x.length (u.map (·.1)) - clp x.length 0 (l.map (·.1)))).map (clp x.length 0 (l.map (·.1)) + ·) := by
          unfold slicePicked Builtin.Str.strSliceIndices
          have h1 : (1 : Int) > 0 := by decide
          simp only [Option.map_none, Option.getD_none, h1, if_true]
          have e1 := clip_eq x.length 0 (by exact z276 hc hl) (l.map (·.1))
          have e2 := clip_eq x.length x.length (by exact z513) (u.map (·.1))
          have e3 : ∀ a b : Int, a = ((clp x.length 0 (l.map (·.1)) : Nat) : Int) → b = ((clp x.length x.length (u.map (·.1)) : Nat) : Int) → sliceRange a b 1 = (List.range (clp x.length x.length (u.map (·.1)) - clp x.length 0 (l.map (·.1)))).map (clp x.length 0 (l.map (·.1)) + ·) := by
            rintro a b rfl rfl; exact sliceRange_one _ _
          exact e3 _ _ (by rw [← e1]; cases l <;> rfl) (by rw [← e2]; cases u <;> rfl)
        intro k hk
        rw [e3] at hk
        obtain ⟨j, hj, rfl⟩ := List.mem_map.mp hk
        have := List.mem_range.mp hj
        have h1 := clp_le x.length x.length (Nat.le_refl _) (u.map (·.1))
        have hs : x.cps.size = x.length := rfl
        have : clp x.length 0 (l.map (·.1)) + j < x.cps.size := by exact z43 this hc hl hs h1
        simp [this]
      clear hc e hb h h'
      revert hin
      generalize slicePicked x l u none = ks
      intro hin
      induction ks with
      | nil => rfl
      | cons k r ih =>
        obtain ⟨v, hv⟩ := Option.isSome_iff_exists.mp (hin k (.head _))
        rw [List.filterMap_cons_some hv, List.length_cons, List.length_cons, ih fun j hj => hin j (.tail _ hj)]
    rw [e, this, str_eta] at h'
    exact h'
  · rw [if_neg hc]
    exact ⟨lim_sizeLine (Nat.le_trans hb hx), h _ _⟩
section
variable {c : Cfg} {n : Nat} {names : Names} {o : Own} {ρ : Vars}
/-- an end of a cut -/
inductive Part (c : Cfg) (n : Nat) (names : Names) (o : Own) (ρ : Vars) : Option Expr → Option Int → Prop
  | none : Part c n names o ρ none none
  | some {e : Expr} {i : Int} : Ev c n names o ρ e (.int i) → Part c n names o ρ (some e) (some i)
theorem Part.run {e : Option Expr} {i : Option Int} (p : Part c n names o ρ e i) {A : Around} {env : Env} {X : List Addr} {s : Shared} {E : Value → Shared → Prop} (hA : OkA c n A) (hn : env.scope.names = names) (hW : c.Wf s.heap) (W : EnvOK o X s.heap env ρ) :
    wpAny (model c.prog c.w) A (evalPart e env) (fun v s' => (∃ q : Option (Int × Tok), v = partValue q ∧ q.map (·.1) = i) ∧ Kp s s') E s := by
  cases p with
  | none => exact wpAny_pure ⟨⟨Option.none, rfl, rfl⟩, .refl _⟩
  | some h =>
    refine then_ (h A env X s E hA hn hW W) fun v s' g => ?_
    obtain ⟨r, k⟩ := g
    obtain ⟨t, rfl⟩ : ∃ t, v = .int _ t := by obtain ⟨t, rfl⟩ := r.inv; exact ⟨t, rfl⟩
    exact ⟨⟨Option.some (_, t), rfl, rfl⟩, k⟩
theorem isPart_of (q : Option (Int × Tok)) : IsPart (partValue q) (q.map (·.1)) := by
  cases q with
  | none => exact .none
  | some p => obtain ⟨i, t⟩ := p; exact .int i t
theorem Ev.cutL {x : Str} {xp p pos : Pos} {lower upper : Option Expr} {lo hi : Option Int} {ds : List D} (h : Ev c n names o ρ (.Name x xp) (.list ds)) (hl : Part c n names o ρ lower lo) (hu : Part c n names o ρ upper hi) :
    Ev c n names o ρ (.Subscript (.Name x xp) (.Slice lower upper none p) pos) (.list (slc lo hi ds)) := fun A env X s E hA hn hW W => by
  refine wpAny_Subscript_list_slice (then_ (h A env X s E hA hn hW W) fun v s₁ g₁ => then_ (hl.run hA hn (c.keeps _ _ g₁.2.heap hW) (W.keeps g₁.2.heap)) fun vl s₂ g₂ =>
    then_ (hu.run hA hn (c.keeps _ _ (g₁.2.trans g₂.2).heap hW) (W.keeps (g₁.2.trans g₂.2).heap)) fun vu s₃ g₃ => ?_)
  obtain ⟨r, k₁⟩ := g₁
  obtain ⟨⟨q₂, rfl, e₂⟩, k₂⟩ := g₂
  obtain ⟨⟨q₃, rfl, e₃⟩, k₃⟩ := g₃
  have k := (k₁.trans k₂).trans k₃
  have r₃ := (r.kp k₂).kp k₃
  obtain ⟨a, vs, ⟨ha, pl, hl, rs⟩, rfl⟩ := r₃.inv
  refine ⟨_, _, _, _, rfl, pl.isList, by rw [List.size_toArray, rs.length]; exact lim_sizeLine hl, isPart_of q₂, isPart_of q₃, ?_⟩
  rw [e₂, e₃]
  have kk : Kp s₃ { s₃ with heap := (s₃.heap.push { cls := .type "slice", data := .fields #[partValue q₂, partValue q₃, .none] }).push { cls := .type "list", data := .seq (slicePick vs.toArray lo hi none) } } :=
    Kp.trans (s' := { s₃ with heap := s₃.heap.push { cls := .type "slice", data := .fields #[partValue q₂, partValue q₃, .none] } }) ⟨.of fun _ _ e => Heap.get?_push_of_some _ e, rfl, fun x => x⟩ ⟨.of fun _ _ e => Heap.get?_push_of_some _ e, rfl, fun x => x⟩
  have al : Alive X s₃.heap := W.alive.keeps k.heap
  refine ⟨.list (vs := slc lo hi vs) ?_ ⟨0, ?_⟩ (Nat.le_trans (slc_length _ _ _) hl) ?_, k.trans kk⟩
  · intro hx
    obtain ⟨o', e'⟩ := al _ hx
    exact absurd (Heap.lt_size e') (Nat.not_lt.mpr (Nat.le_succ _))
  · have := Heap.get?_push_size (s₃.heap.push { cls := .type "slice", data := .fields #[partValue q₂, partValue q₃, .none] }) (o := { cls := .type "list", data := .seq (slicePick vs.toArray lo hi none) }) rfl
    rw [Heap.size_push] at this
    rw [this, ← slicePick_eq]
  · refine Reps.kp ?_ kk
    unfold slc
    rw [rs.length]
    exact (rs.drop _).take _
theorem Ev.cutS {x : Str} {xp p pos : Pos} {lower upper : Option Expr} {lo hi : Option Int} {y : Str} (h : Ev c n names o ρ (.Name x xp) (.str y)) (hl : Part c n names o ρ lower lo) (hu : Part c n names o ρ upper hi) :
    Ev c n names o ρ (.Subscript (.Name x xp) (.Slice lower upper none p) pos) (.str (strCut lo hi y)) := fun A env X s E hA hn hW W => by
  refine wpAny_Subscript_str_slice (then_ (h A env X s E hA hn hW W) fun v s₁ g₁ => then_ (hl.run hA hn (c.keeps _ _ g₁.2.heap hW) (W.keeps g₁.2.heap)) fun vl s₂ g₂ =>
    then_ (hu.run hA hn (c.keeps _ _ (g₁.2.trans g₂.2).heap hW) (W.keeps (g₁.2.trans g₂.2).heap)) fun vu s₃ g₃ => ?_)
  obtain ⟨r, k₁⟩ := g₁
  obtain ⟨⟨q₂, rfl, e₂⟩, k₂⟩ := g₂
  obtain ⟨⟨q₃, rfl, e₃⟩, k₃⟩ := g₃
  have k := (k₁.trans k₂).trans k₃
  obtain ⟨t, hy, rfl⟩ := r.inv
  refine ⟨_, _, q₂, q₃, rfl, rfl, rfl, sliceMade_post hy fun t' tk => ?_⟩
  rw [e₂, e₃]
  exact ⟨.str _ _ (Nat.le_trans (strCut_length _ _ _) hy), k.trans ⟨.of fun _ _ e => Heap.get?_push_of_some _ e, rfl, fun x => x⟩⟩
end
end
section
open PySem PySem.W PyProof.Rows
variable [Lo]
section
variable {c : Cfg} {n : Nat} {names : Names} {o : Own} {ρ : Vars}
theorem Rep.typeIs_str {s : Shared} {X : List Addr} {v : Value} {x : Str} (r : Rep s.heap X v (.str x)) : s.TypeIs v "str" := by obtain ⟨_, _, rfl⟩ := r.inv; exact PySem.typeIs_str _ _ _
theorem Rep.typeIs_list {s : Shared} {X : List Addr} {v : Value} {x : List D} (r : Rep s.heap X v (.list x)) : s.TypeIs v "list" := by obtain ⟨_, _, ⟨_, p, _, _⟩, rfl⟩ := r.inv; exact p.isList.typeIs
/-- keyword arguments -/
noncomputable def Kws (c : Cfg) (n : Nat) (names : Names) (o : Own) (ρ : Vars) (kws : List Keyword) (ks : List (Str × D)) : Prop :=
  (∀ env pos, (backToKw pos (keywordEach kws env)).map (·.1) = ks.map fun p => some p.1) ∧
  ∀ (A : Around) (env : Env) (X : List Addr) (s : Shared) (E : Value → Shared → Prop) (pos : Pos), OkA c n A → env.scope.names = names → c.Wf s.heap → EnvOK o X s.heap env ρ →
    wpAny (model c.prog c.w) A (evalAll ((backToKw pos (keywordEach kws env)).map (·.2))) (Goods X (ks.map (·.2)) s) E s
theorem Kws.nil : Kws c n names o ρ [] [] := ⟨fun _ _ => rfl, fun _ _ _ s _ _ _ _ _ _ => wpAny_evalAll_nil ⟨.nil, .refl _⟩⟩
theorem Kws.cons {x : Str} {e : Expr} {kp : Pos} {r : List Keyword} {d : D} {ks : List (Str × D)} (h : Ev c n names o ρ e d) (hr : Kws c n names o ρ r ks) : Kws c n names o ρ (⟨some x, e, kp⟩ :: r) ((x, d) :: ks) :=
  ⟨fun env pos => congrArg (List.cons (some x)) (hr.1 env pos),
   fun A env X s E pos hA hn hW W => by
    show wpAny _ _ (evalAll ((do let v ← eval e env; standAt pos; pure v) :: (backToKw pos (keywordEach r env)).map (·.2))) _ _ _
    refine wpAny_evalAll_cons (wpAny_bind (then_ (h A env X s E hA hn hW W) fun v s₁ g => wpAny_bind (wpAny_standAt (wpAny_pure ?_))))
    exact then_ (hr.2 A env X s₁ E pos hA hn (c.keeps _ _ g.2.heap hW) (W.keeps g.2.heap)) fun vs s₂ g₂ => ⟨.cons (g.1.kp g₂.2) g₂.1, g.2.trans g₂.2⟩⟩
theorem any_false_of {α : Type} {l : List α} {p : α → Bool} (h : ∀ x ∈ l, p x = false) : l.any p = false := by
  induction l with
  | nil => rfl
  | cons x r ih => rw [List.any_cons, h x (.head _), ih fun y hy => h y (.tail _ hy)]; rfl
noncomputable def noStars (es : List Expr) : Bool := es.all fun e => !isStarred e
theorem noStars_each {es : List Expr} (h : noStars es = true) (env : Env) (pos : Pos) : ∀ x ∈ backTo pos (starEach es env), x.1 = false := by
  induction es with
  | nil => intro x hx; cases hx
  | cons e r ih =>
    simp only [noStars, List.all_cons, Bool.and_eq_true, Bool.not_eq_true'] at h
    rw [starEach_plain h.1]
    intro x hx
    simp only [backTo, List.map_cons] at hx
    rcases List.mem_cons.mp hx with rfl | hx
    · rfl
    · exact ih h.2 x hx
theorem evalArgs_plain' {M : Model} {A : Around} {E : Value → Shared → Prop} {s : Shared} {f : Value} {args : List (Bool × Sem Value)} {kws : List (Option Str × Sem Value)} {Q : Args → Shared → Prop} (hp : ∀ x ∈ args, x.1 = false) (hk : kws.all (·.1.isSome) = true)
    (h : wpAny M A (spliced args) (fun vs s₁ => wpAny M A (evalAll (kws.map (·.2))) (fun ks s₂ => Q ⟨vs, (kws.filterMap (·.1)).zip ks⟩ s₂) E s₁) E s) : wpAny M A (evalArgs f true args kws) Q E s := by
  cases args with
  | nil =>
    refine evalArgs_kw_nil hk ?_
    have h' : wpAny M A (pure ([] : List Value) : Sem _) (fun vs s₁ => wpAny M A (evalAll (kws.map (·.2))) (fun ks s₂ => Q ⟨vs, (kws.filterMap (·.1)).zip ks⟩ s₂) E s₁) E s := h
    exact fun Γ p hΓ => h' Γ p hΓ Γ p hΓ
  | cons x r =>
    obtain ⟨b, x⟩ := x
    obtain rfl : b = false := hp _ (.head _)
    exact evalArgs_kw hk h
theorem wpAny_callAny {A : Around} {E : Value → Shared → Prop} {s : Shared} {pos : Pos} {f : Value} {args : List (Bool × Sem Value)} {kws : List (Option Str × Sem Value)} {Q : Value → Shared → Prop} {P : Args → Shared → Prop}
    (hp : ∀ x ∈ args, x.1 = false) (hk : kws.all (·.1.isSome) = true)
    (ha : wpAny (model c.prog c.w) A (evalArgs f true args kws) P E s) (hf : ∀ a s', P a s' → Callee s'.heap f ∧ wpAny (model c.prog c.w) A (call f a.pos a.kw) Q E s') :
    wpAny (model c.prog c.w) A (callWith pos f [] args kws) Q E s := by
  unfold callWith
  refine wpAny_bind (wpAny_holding (then_ ha fun a s₁ h₁ => wpAny_bind (wpAny_standAt ?_)))
  have hst : (args.any (·.1) || kws.any (·.1.isNone)) = false := by
    rw [any_false_of hp, any_false_of (fun x hx => by have := List.all_eq_true.mp hk x hx; cases h : x.1 <;> simp_all)]; rfl
  rw [hst]
  obtain ⟨hcal, hc⟩ := hf _ _ h₁
  have tail : ∀ {t : Sem Value}, wpAny (model c.prog c.w) A t Q E s₁ → wpAny (model c.prog c.w) A (t >>= fun r => holding [r] point >>= fun _ => pure r) Q E s₁ :=
    fun ht => wpAny_bind (then_ ht fun r s₂ hr => wpAny_bind (wpAny_holding (wpAny_point (wpAny_pure hr))))
  cases hcal with
  | builtin id => exact wpAny_bind (wpAny_pure (tail hc))
  | type T => exact wpAny_bind (wpAny_pure (tail hc))
  | func ho hd =>
    refine wpAny_bind (m := keeperOf _) ?_
    unfold keeperOf
    refine wpAny_bind (wpAny_load ho ?_)
    rw [hd]
    refine wpAny_pure ?_
    dsimp only
    split
    · exact tail hc
    · exact tail (by unfold callMarked; exact Calls.wpAny_keep hc)
theorem kws_all {kws : List (Option Str × Sem Value)} {ks : List (Str × D)} (h : kws.map (·.1) = ks.map fun p => some p.1) : kws.all (·.1.isSome) = true := by
  rw [List.all_eq_true]
  intro x hx
  have : x.1 ∈ kws.map (·.1) := List.mem_map_of_mem hx
  rw [h] at this
  obtain ⟨p, _, e⟩ := List.mem_map.mp this
  rw [← e]; rfl
theorem kws_names : ∀ {kws : List (Option Str × Sem Value)} {ks : List (Str × D)}, kws.map (·.1) = ks.map (fun p => some p.1) → kws.filterMap (·.1) = ks.map (·.1)
  | [], [], _ => rfl
  | (a, t) :: r, (x, d) :: ks, h => by
    simp only [List.map_cons, List.cons.injEq] at h
    obtain ⟨rfl, h⟩ := h
    simp [kws_names h]
  | [], _ :: _, h => by simp at h
  | _ :: _, [], h => by simp at h
/-- the arguments, then the call -/
theorem callWith_run {as : List Expr} {kws : List Keyword} {ds : List D} {ks : List (Str × D)} {d : D} {f : Value} {A : Around} {env : Env} {X : List Addr} {s : Shared} {E : Value → Shared → Prop} {pos : Pos}
    (hs : noStars as = true) (ha : Evs c n names o ρ as ds) (hk : Kws c n names o ρ kws ks) (h : Fn c n f ds ks d) (hA : OkA c n A) (hn : env.scope.names = names) (hW : c.Wf s.heap) (W : EnvOK o X s.heap env ρ) :
    wpAny (model c.prog c.w) A (callWith pos f [] (backTo pos (starEach as env)) (backToKw pos (keywordEach kws env))) (Good X d s) E s := by
  refine wpAny_callAny (P := fun a s' => Kp s s' ∧ Reps s'.heap X a.pos ds ∧ ∃ kvs, a.kw = (ks.map (·.1)).zip kvs ∧ Reps s'.heap X kvs (ks.map (·.2))) (noStars_each hs env pos) (kws_all (hk.1 env pos)) ?_ ?_
  · refine evalArgs_plain' (noStars_each hs env pos) (kws_all (hk.1 env pos)) (then_ (ha A env X s E pos hA hn hW W) fun vs s₁ g₁ => then_ (hk.2 A env X s₁ E pos hA hn (c.keeps _ _ g₁.2.heap hW) (W.keeps g₁.2.heap)) fun kvs s₂ g₂ => ?_)
    exact ⟨g₁.2.trans g₂.2, g₁.1.kp g₂.2, kvs, by rw [kws_names (hk.1 env pos)], g₂.1⟩
  · rintro ⟨vs, kw⟩ s' ⟨k, r, kvs, rfl, rk⟩
    have hW' := c.keeps _ _ k.heap hW
    exact ⟨h.callee _ hW', then_ (h.run A X s' E vs kvs hA hW' (W.alive.keeps k.heap) r rk) fun _ _ g => g.trans k⟩
theorem Ev.call {x : Str} {xp pos : Pos} {as : List Expr} {kws : List Keyword} {f : Value} {ds : List D} {ks : List (Str × D)} {d : D} (hf : Ev c n names o ρ (.Name x xp) (.val f)) (ha : Evs c n names o ρ as ds) (hk : Kws c n names o ρ kws ks) (h : Fn c n f ds ks d)
    (hs : noStars as = true := by rfl) : Ev c n names o ρ (.Call (.Name x xp) as kws pos) d := fun A env X s E hA hn hW W => by
  refine wpAny_Call_Name_kw (then_ (hf A env X s E hA hn hW W) fun v s₁ g => ?_)
  obtain ⟨r, k⟩ := g
  obtain rfl := r.inv
  exact then_ (callWith_run hs ha hk h hA hn (c.keeps _ _ k.heap hW) (W.keeps k.heap)) fun _ _ g => g.trans k
/-- a method of a built-in type -/
structure Mt (c : Cfg) (n : Nat) (name : Str) (d₀ : D) (ds : List D) (d : D) : Prop where
  run : ∃ T id, PlainAttrs T ∧ Slot T name id ∧ typeOf (.builtin id) = pure (.type "method_descriptor") ∧ (∀ (s : Shared) X v, Rep s.heap X v d₀ → s.TypeIs v T) ∧
    ∀ (A : Around) (X : List Addr) (s : Shared) (E : Value → Shared → Prop) (v : Value) (vs : List Value), OkA c n A → c.Wf s.heap → Alive X s.heap → Rep s.heap X v d₀ → Reps s.heap X vs ds →
      wpAny (model c.prog c.w) A (call (.builtin id) (v :: vs)) (Good X d s) E s
theorem rep_dict {h : Heap} {X : List Addr} {v : Value} {d : D} (r : Rep h X v d) (hd : ∀ u, d ≠ .val u) : ∀ a, v = .ref a → ∃ ob, h.get? a = some ob ∧ ob.dict = none := by
  rintro a rfl
  cases r with
  | list _ p _ _ => obtain ⟨n, e⟩ := p; exact ⟨_, e, rfl⟩
  | tup _ p _ _ => obtain ⟨n, e⟩ := p; exact ⟨_, e, rfl⟩
  | val => exact absurd rfl (hd _)
theorem Ev.meth {b : Expr} {name : Str} {apos pos : Pos} {as : List Expr} {d₀ d : D} {ds : List D} (hb : Ev c n names o ρ b d₀) (ha : Evs c n names o ρ as ds) (h : Mt c n name d₀ ds d) (hd : ∀ u, d₀ ≠ .val u := by intro _ h; cases h)
    (hs : noStars as = true := by rfl) (hlen : as.length < 30 := by decide) (hline : (apos.endLine == pos.line) = true := by rfl) (hbase : ∀ env, attributeBase b name env (eval b env) = eval b env := by intro _; rfl) :
    Ev c n names o ρ (.Call (.Attribute b name apos) as [] pos) d := fun A env X s E hA hn hW W => by
  obtain ⟨T, id, pa, sl, ty, ti, run⟩ := h.run
  refine wpAny_Call_method_lateS (hbase env) ?_ hline (then_ (hb A env X s E hA hn hW W) fun v s₁ g => ?_)
  · have : ((backTo pos (starEach as env)).all fun x => !x.1) = true := by
      rw [List.all_eq_true]; intro x hx; rw [noStars_each hs env pos x hx]; rfl
    rw [this]
    show (true && true && decide (as.length + 0 + 0 < 30)) = true
    simpa using hlen
  · obtain ⟨r, k⟩ := g
    refine ⟨T, id, pa, sl, ty, ti _ _ _ r, rep_dict r hd, ?_⟩
    refine Calls.callWith_builtin (any_false_of (noStars_each hs env pos)) (evalArgs_plain' (kws := []) (noStars_each hs env pos) rfl (then_ (ha A env X s₁ E pos hA hn (c.keeps _ _ k.heap hW) (W.keeps k.heap)) fun vs s₂ g₂ => wpAny_evalAll_nil ?_))
    have k₂ := k.trans g₂.2
    exact then_ (run A X s₂ E v vs hA (c.keeps _ _ k₂.heap hW) (W.alive.keeps k₂.heap) (r.kp g₂.2) g₂.1) fun _ _ g => g.trans k₂
end
end
section
open PySem PySem.W PyProof.Rows
variable [Lo]
noncomputable abbrev I (i : Int) : D := .int i
noncomputable abbrev L (ds : List D) : D := .list ds
noncomputable abbrev LI (ns : List Int) : D := .list (ns.map .int)
noncomputable def srt (ns : List Int) : List Int := ns.mergeSort (fun a b => decide (a ≤ b))
theorem srt_perm (ns : List Int) : (srt ns).Perm ns := List.mergeSort_perm ..
theorem srt_sorted (ns : List Int) : (srt ns).Pairwise (· ≤ ·) := by
  have := List.pairwise_mergeSort (le := fun a b : Int => decide (a ≤ b)) (by intro a b c; simp; exact z438) (by intro a b; simp; exact z492) ns
  exact this.imp (by simp)
theorem srt_length (ns : List Int) : (srt ns).length = ns.length := (srt_perm ns).length_eq
theorem srt_of {ns ms : List Int} (hp : ms.Perm ns) (hs : ms.Pairwise (· ≤ ·)) : ms = srt ns :=
  List.Perm.eq_of_pairwise (le := (· ≤ ·)) (fun a b _ _ h1 h2 => Int.le_antisymm h1 h2) hs (srt_sorted ns) (hp.trans (srt_perm ns).symm)
theorem Reps.ints {h : Heap} {X : List Addr} {ns : List Int} : ∀ {vs : List Value}, Reps h X vs (ns.map .int) → IntsAre vs ns := by
  induction ns with
  | nil => exact fun r => r.onNil (Ps := fun vs => IntsAre vs []) .nil
  | cons n ns ih => exact fun r => r.onCons (Ps := fun vs => IntsAre vs (n :: ns)) fun v vs q rs => q.onInt (P := fun v => IntsAre (v :: vs) (n :: ns)) fun t => .cons _ _ (ih rs)
theorem Reps.ofInts {h : Heap} {X : List Addr} {vs : List Value} {ns : List Int} (x : IntsAre vs ns) : Reps h X vs (ns.map .int) := by
  induction x with
  | nil => exact .nil
  | cons n t r ih => exact .cons (.int n t) ih
section
variable {c : Cfg} {n : Nat} {names : Names} {o : Own} {ρ : Vars}
theorem Reps.one {h : Heap} {X : List Addr} {vs : List Value} {d : D} (r : Reps h X vs [d]) : ∃ v, vs = [v] ∧ Rep h X v d := by
  obtain ⟨v, ws, ⟨q, rs⟩, e⟩ := r.inv
  exact ⟨v, e.trans (congrArg (List.cons v) rs.inv), q⟩
theorem Reps.two {h : Heap} {X : List Addr} {vs : List Value} {d e : D} (r : Reps h X vs [d, e]) : ∃ v u, vs = [v, u] ∧ Rep h X v d ∧ Rep h X u e := by
  obtain ⟨v, ws, ⟨q, rs⟩, e⟩ := r.inv
  obtain ⟨u, e', q'⟩ := rs.one
  exact ⟨v, u, by rw [e, e'], q, q'⟩
theorem Reps.three {h : Heap} {X : List Addr} {vs : List Value} {d e f : D} (r : Reps h X vs [d, e, f]) : ∃ v u z, vs = [v, u, z] ∧ Rep h X v d ∧ Rep h X u e ∧ Rep h X z f := by
  obtain ⟨v, ws, ⟨q, rs⟩, e⟩ := r.inv
  obtain ⟨u, z, e', q'⟩ := rs.two
  exact ⟨v, u, z, by rw [e, e'], q, q'⟩
theorem Reps.none {h : Heap} {X : List Addr} {vs : List Value} (r : Reps h X vs []) : vs = [] := r.inv
/-- a built-in of one argument -/
theorem Fn.of1 {id : Value} {d₁ d : D} (hc : ∀ h, Callee h id) (h : ∀ (A : Around) (X : List Addr) (s : Shared) (E : Value → Shared → Prop) (v : Value), OkA c n A → c.Wf s.heap → Alive X s.heap → Rep s.heap X v d₁ → wpAny (model c.prog c.w) A (call id [v]) (Good X d s) E s) :
    Fn c n id [d₁] [] d := ⟨fun _ _ => hc _, fun A X s E vs kvs hA hW hX r rk => by
    obtain ⟨v, rfl, r'⟩ := r.one
    obtain rfl := Reps.none rk
    exact h A X s E v hA hW hX r'⟩
theorem Fn.of2 {id : Value} {d₁ d₂ d : D} (hc : ∀ h, Callee h id) (h : ∀ (A : Around) (X : List Addr) (s : Shared) (E : Value → Shared → Prop) (v u : Value), OkA c n A → c.Wf s.heap → Alive X s.heap → Rep s.heap X v d₁ → Rep s.heap X u d₂ → wpAny (model c.prog c.w) A (call id [v, u]) (Good X d s) E s) :
    Fn c n id [d₁, d₂] [] d := ⟨fun _ _ => hc _, fun A X s E vs kvs hA hW hX r rk => by
    obtain ⟨v, u, rfl, r', q⟩ := r.two
    obtain rfl := Reps.none rk
    exact h A X s E v u hA hW hX r' q⟩
theorem Fn.lenL (ds : List D) : Fn c n (.builtin "len") [.list ds] [] (.int ds.length) := .of1 (fun _ => .builtin _) fun A X s E v hA hW hX r => by
  obtain ⟨_, _, ⟨ha, p, hl, rs⟩, rfl⟩ := r.inv
  exact Calls.call_len_list p.isList (by simp [rs.length, lim] at *; exact z519 hl) ⟨by rw [List.size_toArray, rs.length]; exact .int _ _, .tok⟩
theorem Fn.lenS (x : Str) : Fn c n (.builtin "len") [.str x] [] (.int x.length) := .of1 (fun _ => .builtin _) fun A X s E v hA hW hX r => by
  obtain ⟨t, hx, rfl⟩ := r.inv
  exact P.len_str (by simp [lim] at hx; exact z512 hx) ⟨.int _ _, .tok⟩
theorem Fn.sorted (ns : List Int) (hn : ns.length < 64) : Fn c n (.builtin "sorted") [LI ns] [] (LI (srt ns)) := .of1 (fun _ => .builtin _) fun A X s E v hA hW hX r => by
  obtain ⟨a, vs, ⟨ha, p, hl, rs⟩, rfl⟩ := r.inv
  have hi := rs.ints
  refine sorted_ints p.isList hi (by rw [rs.length, List.length_map]; exact hn) fun out ns' a1 a2 a3 => ?_
  obtain rfl := srt_of a2 a3
  obtain ⟨e, he⟩ := sortedAll_at s.heap vs out
  have kk : Kp s { s with heap := sortedAll s.heap vs out } := ⟨.of fun _ _ => sortedAll_old, rfl, fun x => x⟩
  refine ⟨.list (vs := out.toList) ?_ ⟨e, by simpa using he⟩ (by simp [srt_length, lim]; exact z495 hn) (.ofInts a1), kk⟩
  intro hx
  obtain ⟨o', e'⟩ := hX _ hx
  exact absurd (Heap.lt_size e') (Nat.not_lt.mpr (Nat.le_succ _))
theorem Fn.isiBool (b : Bool) : Fn c n (.builtin "isinstance") [.bool b, .val (.type "bool")] [] (.bool true) := .of2 (fun _ => .builtin _) fun A X s E v u hA hW hX r q => by
  obtain rfl := r.inv; obtain rfl := q.inv; exact IsiPair.bool_bool ⟨.bool _, .refl _⟩
theorem Fn.isiInt (i : Int) : Fn c n (.builtin "isinstance") [.int i, .val (.type "int")] [] (.bool true) := .of2 (fun _ => .builtin _) fun A X s E v u hA hW hX r q => by
  obtain ⟨_, rfl⟩ := r.inv; obtain rfl := q.inv; exact IsiPair.int_int ⟨.bool _, .refl _⟩
theorem Fn.isiFlt (k : Int) : Fn c n (.builtin "isinstance") [.flt k, .val (.type "float")] [] (.bool true) := .of2 (fun _ => .builtin _) fun A X s E v u hA hW hX r q => by
  obtain ⟨_, _, _, rfl⟩ := r.inv; obtain rfl := q.inv; exact IsiPair.float_float ⟨.bool _, .refl _⟩
theorem Fn.divmod (a b : Int) (hb : 0 < b) (hs : b < 1073741824) : Fn c n (.builtin "divmod") [.int a, .int b] [] (.tup [.int (a / b), .int (a % b)]) := .of2 (fun _ => .builtin _) fun A X s E v u hA hW hX r q => by
  obtain ⟨_, rfl⟩ := r.inv; obtain ⟨_, rfl⟩ := q.inv
  rw [← Int.fdiv_eq_ediv_of_nonneg a (Int.le_of_lt hb), ← Int.fmod_eq_emod_of_nonneg a (Int.le_of_lt hb)]
  refine divmod_int (by exact z507 hb hs) ?_ (.inl (PyProof.noPylong_small (by exact z349 hb hs)))
  exact ⟨.tup (vs := [_, _]) (fun hx => by obtain ⟨o', e'⟩ := hX _ hx; exact Nat.lt_irrefl _ (Heap.lt_size e')) ⟨0, Heap.get?_push_size _ rfl⟩ (show 2 ≤ lim by decide) (.cons (.int _ _) (.cons (.int _ _) .nil)), ⟨.of fun _ _ e => Heap.get?_push_of_some _ e, rfl, fun x => x⟩⟩
theorem preSum_map (ns : List Int) : ∀ k, k ≤ ns.length → preSum (fun i => ns.getD i 0) k = (ns.take k).sum
  | 0, _ => by simp [preSum]
  | k + 1, h => by
    have hk : k < ns.length := by exact z497 h
    rw [preSum, preSum_map ns k (by exact z478 h), List.take_add_one, List.sum_append, List.getElem?_eq_getElem hk, List.getD_eq_getElem?_getD, List.getElem?_eq_getElem hk]; simp
theorem sum_take_bound (ns : List Int) (B : Int) (h : ∀ x ∈ ns, -B ≤ x ∧ x ≤ B) : ∀ k, k ≤ ns.length → -(k * B) ≤ (ns.take k).sum ∧ (ns.take k).sum ≤ k * B
  | 0, _ => by simp
  | k + 1, hk => by
    have hk' : k < ns.length := by exact z497 hk
    have ih := sum_take_bound ns B h k (by exact z478 hk)
    have hx := h ns[k] (List.getElem_mem hk')
    rw [List.take_add_one, List.sum_append, List.getElem?_eq_getElem hk']
    have e : ((k + 1 : Nat) : Int) * B = k * B + B := by push_cast; rw [Int.add_mul, Int.one_mul]
    rw [e]; simp; exact z71 ih hx hk' e
theorem Fn.sum (ns : List Int) (hb : ∀ x ∈ ns, -(2 ^ 40) ≤ x ∧ x ≤ 2 ^ 40) : Fn c n (.builtin "sum") [LI ns] [] (.int ns.sum) := .of1 (fun _ => .builtin _) fun A X s E v hA hW hX r => by
  obtain ⟨a, vs, ⟨ha, p, hl, rs⟩, rfl⟩ := r.inv
  have hi := rs.ints
  have hlen : ns.length ≤ lim := by simpa using hl
  refine call_sum_walk (wpAny_pyIter_list p.isList ⟨_, _, _, _, _, _, fun i => ns.getD i 0, rfl, Walks.list (A := A.in1) hA.handled s.heap.objs.size a ?_ vs.toArray, ?_, ?_, ?_, ?_, ?_⟩)
  · obtain ⟨n, e⟩ := p; exact Nat.ne_of_lt (Heap.lt_size e)
  · exact ⟨⟨_, Heap.get?_push_size _ rfl, rfl, rfl⟩, p.isList.push _⟩
  · intro b hb
    obtain ⟨n, e⟩ := p
    rcases List.mem_cons.mp hb with rfl | hb
    · simp [Heap.size_push]
    · rw [List.mem_singleton.mp hb]; simp only [Heap.size_push]; exact Nat.lt_succ_of_lt (Heap.lt_size e)
  · intro i v hv
    obtain ⟨k, e, t, rfl⟩ : ∃ k, ns[i]? = some k ∧ ∃ t, v = .int k t := by
      obtain ⟨d, hd, rd⟩ := rs.get' (by simpa using hv)
      rw [List.getElem?_map] at hd
      cases hk : ns[i]? with
      | none => rw [hk] at hd; cases hd
      | some k => rw [hk] at hd; cases hd; obtain ⟨_, rfl⟩ := rd.inv; exact ⟨_, rfl, _, rfl⟩
    exact ⟨t, by simp [List.getD_eq_getElem?_getD, e]⟩
  · intro j hj
    have hj' : j < ns.length := by simpa [rs.length] using hj
    have hx := hb ns[j] (List.getElem_mem hj')
    have hs := sum_take_bound ns (2 ^ 40) hb (j + 1) (by exact z412 hj')
    have hm : ((j + 1 : Nat) : Int) * 2 ^ 40 ≤ 4096 * 2 ^ 40 := Int.mul_le_mul_of_nonneg_right (by simp [lim] at hlen; exact z327 hj' hlen) (by decide)
    refine ⟨?_, ?_⟩
    · simp only [List.getD_eq_getElem?_getD, List.getElem?_eq_getElem hj', Option.getD_some]; constructor <;> (first | exact z296 hx hj' | exact z346 hx hj')
    · rw [preSum_map ns (j + 1) (by exact z412 hj')]; constructor <;> (first | exact z153 hm hs hj' | exact z192 hm hs hj')
  · intro h' tk t' hk
    have e : preSum (fun i => ns.getD i 0) vs.toArray.size = ns.sum := by
      rw [preSum_map ns _ (by simp [rs.length]), List.take_of_length_le (by simp [rs.length])]
    rw [e]
    refine ⟨.int _ _, ⟨.of fun b o e => hk b o ?_ (Heap.get?_push_of_some _ e), rfl, fun x => x⟩⟩
    intro hb; rw [List.mem_singleton.mp hb] at e; exact Nat.lt_irrefl _ (Heap.lt_size e)
/-- methods of texts -/
theorem Mt.startswith (x y : Str) : Mt c n "startswith" (.str x) [.str y] (.bool (Txt.startswith x y)) := ⟨"str", _, F.plainAttrs_str, F.slot_str_startswith, F.type_str_startswith, fun _ _ _ r => r.typeIs_str, fun A X s E v vs _ _ _ r q => by
  obtain ⟨u, rfl, q'⟩ := q.one; obtain ⟨_, _, rfl⟩ := r.inv; obtain ⟨_, _, rfl⟩ := q'.inv; exact SC.startswith ⟨.bool _, .refl _⟩⟩
theorem Mt.endswith (x y : Str) : Mt c n "endswith" (.str x) [.str y] (.bool (Txt.endswith x y)) := ⟨"str", _, F.plainAttrs_str, F.slot_str_endswith, F.type_str_endswith, fun _ _ _ r => r.typeIs_str, fun A X s E v vs _ _ _ r q => by
  obtain ⟨u, rfl, q'⟩ := q.one; obtain ⟨_, _, rfl⟩ := r.inv; obtain ⟨_, _, rfl⟩ := q'.inv; exact SC.endswith ⟨.bool _, .refl _⟩⟩
open Builtin Builtin.Str in
theorem gives_find4 (x y : Str) (i j : Int) (t u v w : Tok) : Gives («str.find» ⟨[.str x t, .str y u, .int i v, .int j w], []⟩) (.int (match occurrences x y (fromIndex x.length i) (min (fromIndex x.length j) x.length) 1 with | k :: _ => (k : Int) | [] => -1)) := by
  show Gives (match occurrences x y (fromIndex x.length i) (min (fromIndex x.length j) x.length) 1 with | k :: _ => retInt k | [] => (do rule "str.find.not-found"; retInt (-1))) _
  cases occurrences x y (fromIndex x.length i) (min (fromIndex x.length j) x.length) 1 with
  | nil => exact .rule (.of_eq rfl)
  | cons k _ => exact .of_eq rfl
noncomputable def find4 (x y : Str) (i j : Int) : Int := match Builtin.Str.occurrences x y (fromIndex x.length i) (min (fromIndex x.length j) x.length) 1 with | k :: _ => (k : Int) | [] => -1
theorem Mt.find (x y : Str) (i j : Int) : Mt c n "find" (.str x) [.str y, .int i, .int j] (.int (find4 x y i j)) := ⟨"str", _, F.plainAttrs_str, F.slot_str_find, F.type_str_find, fun _ _ _ r => r.typeIs_str, fun A X s E v vs _ _ _ r q => by
  obtain ⟨u, z, w, rfl, q1, q2, q3⟩ := q.three; obtain ⟨_, _, rfl⟩ := r.inv; obtain ⟨_, _, rfl⟩ := q1.inv; obtain ⟨_, rfl⟩ := q2.inv; obtain ⟨_, rfl⟩ := q3.inv
  exact call_gives F.slot_str_find (typeIs_str _ _ _) F.entry_str_find (F.args_str_find_4 _ _ _ _) (gives_find4 x y i j _ _ _ _) ⟨.int _ _, .tok⟩⟩
noncomputable def SS (l : List (Str × Tok)) (t : List Str) : Prop := l.map (·.1) = t
theorem Reps.strs {h : Heap} {X : List Addr} {xs : List Str} : ∀ {vs : List Value}, Reps h X vs (xs.map .str) → ∃ l : List (Str × Tok), vs = strValues l ∧ l.map (·.1) = xs := by
  induction xs with
  | nil => exact fun r => ⟨[], r.inv, rfl⟩
  | cons x xs ih =>
    intro vs r
    obtain ⟨v, ws, ⟨q, rs⟩, e⟩ := r.inv
    obtain ⟨t, _, e'⟩ := q.inv
    obtain ⟨l, e1, e2⟩ := ih rs
    exact ⟨(x, t) :: l, by rw [e, e', e1]; rfl, by rw [List.map_cons, e2]⟩
theorem Reps.ofStrs {h : Heap} {X : List Addr} (l : List (Str × Tok)) (hl : ∀ p ∈ l, p.1.length ≤ lim) : Reps h X (strValues l) ((l.map (·.1)).map .str) := by
  induction l with
  | nil => exact .nil
  | cons p l ih => exact .cons (.str p.1 p.2 (hl _ (.head _))) (ih fun p hp => hl p (.tail _ hp))
theorem Mt.join (x : Str) (xs : List Str) (hok : JoinOk x xs = true) (hl : (Txt.join x xs).length ≤ lim) : Mt c n "join" (.str x) [.list (xs.map .str)] (.str (Txt.join x xs)) := ⟨"str", _, F.plainAttrs_str, F.slot_str_join, F.type_str_join, fun _ _ _ r => r.typeIs_str, fun A X s E v vs _ _ _ r q => by
  obtain ⟨u, rfl, q'⟩ := q.one; obtain ⟨_, _, rfl⟩ := r.inv
  obtain ⟨_, _, ⟨ha, p, hl', rs⟩, rfl⟩ := q'.inv
  obtain ⟨l, rfl, e⟩ := rs.strs
  exact SC.join p.isList e hok fun t' k => ⟨.str _ _ hl, .tok⟩⟩
/-- an item -/
structure Got (c : Cfg) (n : Nat) (d₁ d₂ d : D) : Prop where
  run : ∃ T id, typeLookup (.type T) "__getitem__" = pure (some (.builtin id)) ∧ (∀ (s : Shared) X v, Rep s.heap X v d₁ → s.TypeIs v T) ∧
    ∀ (A : Around) (X : List Addr) (s : Shared) (E : Value → Shared → Prop) (v u : Value), OkA c n A → c.Wf s.heap → Alive X s.heap → Rep s.heap X v d₁ → Rep s.heap X u d₂ →
      wpAny (model c.prog c.w) A (getItem v u) (Good X d s) E s
theorem Ev.item {e sl : Expr} {pos : Pos} {d₁ d₂ d : D} (h₁ : Ev c n names o ρ e d₁) (h₂ : Ev c n names o ρ sl d₂) (h : Got c n d₁ d₂ d) (hs : ∀ v u, subscripted sl false v u = operate [v, u] (getItem v u) := by intro _ _; rfl) :
    Ev c n names o ρ (.Subscript e sl pos) d := fun A env X s E hA hn hW W => by
  obtain ⟨T, id, lk, ti, run⟩ := h.run
  refine Subscript_ (then_ (h₁ A env X s E hA hn hW W) fun v s₁ g₁ => then_ (h₂ A env X s₁ E hA hn (c.keeps _ _ g₁.2.heap hW) (W.keeps g₁.2.heap)) fun u s₂ g₂ => ?_)
  have k := g₁.2.trans g₂.2
  refine tail_any (ti _ _ _ (g₁.1.kp g₂.2)) lk (then_ (run A X s₂ E v u hA (c.keeps _ _ k.heap hW) (W.alive.keeps k.heap) (g₁.1.kp g₂.2) g₂.1) fun _ _ g => g.trans k) (hs _ _)
theorem Got.list (ds : List D) (i : Int) (d : D) (h0 : 0 ≤ i) (hd : ds[i.toNat]? = some d) : Got c n (.list ds) (.int i) d := ⟨"list", _, slot_list_getitem.lookup, fun _ _ _ r => r.typeIs_list, fun A X s E v u _ _ _ r q => by
  obtain ⟨_, rfl⟩ := q.inv
  obtain ⟨_, _, ⟨ha, p, hl, rs⟩, rfl⟩ := r.inv
  obtain ⟨v, hv, rv⟩ := rs.get hd
  have hlt : i.toNat < ds.length := (List.getElem?_eq_some_iff.mp hd).1
  exact wpAny_getItem_list p.isList h0 (by simp [lim] at hl; exact z275 hlt hl) (by simpa using hv) ⟨rv, .refl _⟩⟩
theorem Got.listNeg (ds : List D) (i : Int) (d : D) (h0 : i < 0) (h1 : 0 ≤ i + ds.length) (hd : ds[(i + ds.length).toNat]? = some d) : Got c n (.list ds) (.int i) d := ⟨"list", _, slot_list_getitem.lookup, fun _ _ _ r => r.typeIs_list, fun A X s E v u _ _ _ r q => by
  obtain ⟨_, rfl⟩ := q.inv
  obtain ⟨_, _, ⟨ha, p, hl, rs⟩, rfl⟩ := r.inv
  obtain ⟨v, hv, rv⟩ := rs.get hd
  exact wpAny_getItem_list_neg p.isList h0 (by rw [List.size_toArray, rs.length]; exact z483 h1) (by simp [lim] at hl; exact z399 h1 hl) (by rw [List.size_toArray, rs.length]; simpa using hv) ⟨rv, .refl _⟩⟩
theorem Got.str (x : Str) (i : Int) (h0 : 0 ≤ i) (h1 : i < x.length) (hx : x.length ≤ lim) : Got c n (.str x) (.int i) (.str ⟨#[x.cps.toList.getD i.toNat 0]⟩) := ⟨"str", _, F.slot_str_getitem.lookup, fun _ _ _ r => r.typeIs_str, fun A X s E v u _ _ _ r q => by
  obtain ⟨_, rfl⟩ := q.inv; obtain ⟨_, _, rfl⟩ := r.inv
  refine P.getItem_str (c := x.cps.toList.getD i.toNat 0) (by simp [lim] at hx; simp; exact z347 h0 h1 hx) ?_ ⟨.str _ _ (show 1 ≤ lim by decide), .tok⟩
  have e : seqIndex? i x.length = some i.toNat := by unfold seqIndex?; simp; omega
  have hs : x.cps.size = x.length := rfl
  have hl : i.toNat < x.cps.size := by exact z181 h0 h1 hs
  rw [e]; simp [hl]⟩
/-- sums and multiples of lists, multiples of texts -/
theorem Op2.ladd (ds es : List D) (hl : ds.length + es.length ≤ lim) : Op2 c n (binaryOp .Add) (.list ds) (.list es) (.list (ds ++ es)) := fun A X s E v u _ _ hX r q => by
  obtain ⟨a, vs, ⟨ha, p, hl₁, rs⟩, rfl⟩ := r.inv
  obtain ⟨b, ws, ⟨hb, p₂, hl₂, qs⟩, rfl⟩ := q.inv
  obtain ⟨m, e⟩ := p; obtain ⟨m₂, e₂⟩ := p₂
  have ee : vs.toArray ++ ws.toArray = (vs ++ ws).toArray := by simp
  refine concat_meets ⟨_, e, rfl⟩ ⟨_, e₂, rfl⟩ noFill_list_add seq_list_add PySem.F.slot_list_add PySem.F.entry_list_add (PySem.F.args_list_add_2 _ _) (list_addW a b vs.toArray ws.toArray m m₂ none none #[] #[] (by simp [rs.length, qs.length]; exact lim_sizeLine hl)) ⟨e, e₂, ?_⟩
  rw [ee]
  exact Rep.newList hX (rs.append qs) (by simpa using hl)
noncomputable def repL {α : Type} (k : Nat) (ds : List α) : List α := (List.replicate k ds).flatten
theorem foldl_rep {α : Type} (a : Array α) : ∀ (k : Nat) (acc : Array α), List.foldl (fun x1 x2 => x1 ++ x2) acc (List.replicate k a) = acc ++ (repL k a.toList).toArray
  | 0, acc => by simp [repL]
  | k + 1, acc => by
    rw [List.replicate_succ, List.foldl_cons, foldl_rep a k]
    apply Array.ext'
    simp [repL, List.replicate_succ]
theorem Reps.rep {h : Heap} {X : List Addr} {vs : List Value} {ds : List D} (r : Reps h X vs ds) : ∀ k, Reps h X (repL k vs) (repL k ds)
  | 0 => by simpa [repL] using Reps.nil
  | k + 1 => by simpa [repL, List.replicate_succ] using r.append (Reps.rep r k)
theorem repL_length {α : Type} (k : Nat) (ds : List α) : (repL k ds).length = k * ds.length := by
  induction k with
  | zero => simp [repL]
  | succ k ih => rw [Nat.succ_mul]; simp [repL, List.replicate_succ]; exact z435
theorem Op2.lmul (ds : List D) (k : Int) (h0 : 0 ≤ k) (hl : k.toNat * ds.length ≤ lim) (hk : k ≤ 4096) (hne : ds ≠ []) : Op2 c n (binaryOp .Mult) (.list ds) (.int k) (.list (repL k.toNat ds)) := fun A X s E v u _ _ hX r q => by
  obtain ⟨_, rfl⟩ := q.inv
  obtain ⟨a, vs, ⟨ha, p, hl₁, rs⟩, rfl⟩ := r.inv
  obtain ⟨m, e⟩ := p
  have hv : vs.length = ds.length := rs.length
  have hne' : vs.toArray.isEmpty = false := by cases vs with | nil => simp at hv; exact absurd (List.eq_nil_of_length_eq_zero hv.symm) hne | cons => simp
  refine wpAny_binaryOp_repeat_ref (T := "list") (U := "int") (by decide) ⟨_, e, rfl⟩ (fun s' => typeIs_int s' k _) noFill_list_mul F.fills_int_mul F.slot_int_rmul repeat_list F.slot_int_index.lookup
    (call_meets F.slot_int_rmul (typeIs_int s k _) F.entry_int_rmul (F.args_int_rmul_2 _ _) (int___rmul___int_list k _ a vs.toArray m)
      ⟨e, rfl, ⟨_, e, rfl⟩, call_meets F.slot_list_mul ⟨_, e, rfl⟩ F.entry_list_mul (F.args_list_mul_2 _ _)
        (AutoListH.list___mul___list_int_3 a vs.toArray m k _ (by simp [Builtin.List.listFitsIndex]; exact z419 h0 hk) ?_ ?_)
        ⟨e, ?_⟩⟩)
  · rw [List.size_toArray, hv, Nat.mul_comm]; simp [lim] at hl; exact z441 hl
  · rw [List.size_toArray, hv, Nat.mul_comm]; simp [Builtin.List.listTooLong, sizeLine]; simp [lim] at hl; exact z481 hl
  · rw [hne', if_neg (by simp), foldl_rep]
    have : (#[] : Array Value) ++ (repL k.toNat vs.toArray.toList).toArray = (repL k.toNat vs).toArray := by simp
    rw [this]
    exact Rep.newList hX (rs.rep _) (by rw [repL_length]; exact hl)
theorem Op2.smul (x : Str) (k : Int) (hk0 : -4096 ≤ k) (hk : k ≤ 4096) (hx : x.length = 1) : Op2 c n (binaryOp .Mult) (.str x) (.int k) (.str ⟨(repL k.toNat x.cps.toList).toArray⟩) := fun A X s E v u _ _ hX r q => by
  obtain ⟨_, rfl⟩ := q.inv; obtain ⟨_, _, rfl⟩ := r.inv
  have e : Txt.mul x k = ⟨(repL k.toNat x.cps.toList).toArray⟩ := by
    unfold Txt.mul
    by_cases h1 : k < 1
    · rw [if_pos h1]; have : k.toNat = 0 := by exact z261 hk0 h1 hk
      rw [this]; rfl
    · rw [if_neg h1]
      by_cases h2 : k = 1
      · subst h2; rw [if_pos (by rfl)]; obtain ⟨a⟩ := x; simp [repL]
      · rw [if_neg (by simp [h2, hx]), foldl_rep]; simp
  refine SB.mul ⟨by simp; exact z414 hk0 hk, fun h _ => ?_, fun h _ => ?_⟩ fun t' tk => ?_
  · rw [hx]
    have : (1 : Int) ≤ (2 ^ 63 - 1) / k := by rw [Int.le_ediv_iff_mul_le (by exact z458 hk0 hk h)]; exact z385 hk0 hk h
    exact z440 this
  · rw [hx]; simp [Builtin.Str.tooLong, sizeLine_eq]; exact z453 hk0 hk h
  · rw [e]
    refine ⟨.str _ _ ?_, .tok⟩
    have hl := repL_length k.toNat x.cps.toList
    have hx' : x.cps.toList.length = 1 := by simpa [Str.length] using hx
    rw [hx'] at hl
    simp only [Str.length, List.size_toArray, hl, lim]; exact z257 hk0 hk
end
end
section
open PySem PySem.W PyProof.Rows PySem.SeqAt
variable [Lo]
theorem two_pow_pos' : (0 : Int) < 2 ^ 1073 := Int.pow_pos (by decide)
theorem pow1074 : (2 : Int) ^ 1074 = 2 * 2 ^ 1073 := by rw [Int.pow_succ, Int.mul_comm]
theorem compare_mul (a b : Int) {K : Int} (hK : 0 < K) : compare (a * K) (b * K) = compare a b := by
  rcases Int.lt_trichotomy a b with h | h | h
  · rw [Int.compare_eq_lt.mpr h, Int.compare_eq_lt.mpr (Int.mul_lt_mul_of_pos_right h hK)]
  · subst h; simp
  · rw [Int.compare_eq_gt.mpr h, Int.compare_eq_gt.mpr (Int.mul_lt_mul_of_pos_right h hK)]
theorem FV.cmp {x y : UInt64} {k j : Int} (h : FV x k) (h' : FV y j) : Float64.cmp x y = some (compare k j) := by
  obtain ⟨a, m, e, hd, hv⟩ := h; obtain ⟨b, m', e', hd', hv'⟩ := h'
  rw [Float64.cmp_right hd hd', hv, hv', compare_mul _ _ two_pow_pos']
theorem FV.cmpInt {x : UInt64} {k : Int} (h : FV x k) (i : Int) : Float64.cmpInt x i = some (compare k (2 * i)) := by
  obtain ⟨a, m, e, hd, hv⟩ := h
  rw [Float64.cmpInt_right hd, hv, pow1074]
  have : i * (2 * 2 ^ 1073) = 2 * i * 2 ^ 1073 := by rw [← Int.mul_assoc, Int.mul_comm i 2]
  rw [this, compare_mul _ _ two_pow_pos']
theorem some_beq (a b : Int) : (some (compare a b) == some Ordering.eq) = decide (a = b) := by
  rcases Int.lt_trichotomy a b with h | h | h
  · rw [Int.compare_eq_lt.mpr h]; simp; omega
  · subst h; simp
  · rw [Int.compare_eq_gt.mpr h]; simp; omega
theorem some_blt (a b : Int) : (some (compare a b) == some Ordering.lt) = decide (a < b) := by
  rcases Int.lt_trichotomy a b with h | h | h
  · rw [Int.compare_eq_lt.mpr h]; simp [h]
  · subst h; simp
  · rw [Int.compare_eq_gt.mpr h]; simp; omega
-- equality of data that the program compares within lists
noncomputable def nth (ds : List D) (j : Nat) : D := ds.getD j (.int 0)
inductive Kin : Nat → D → D → Prop
  | ii (n : Nat) (a b : Int) : Kin n (.int a) (.int b)
  | fi (n : Nat) (a b : Int) : Kin n (.flt a) (.int b)
  | jf (n : Nat) (a b : Int) : Kin n (.int a) (.flt b)
  | bb (n : Nat) (a b : Bool) : Kin n (.bool a) (.bool b)
  | ss (n : Nat) (a b : Str) : Kin n (.str a) (.str b)
  | lls {n : Nat} {ds es : List D} : (∀ j, j < ds.length → j < es.length → Kin n (nth ds j) (nth es j)) → Kin (n + 1) (.list ds) (.list es)
noncomputable def Kins (n : Nat) (ds es : List D) : Prop := ∀ j, j < ds.length → j < es.length → Kin n (nth ds j) (nth es j)
theorem Kin.ll {n : Nat} {ds es : List D} (k : Kins n ds es) : Kin (n + 1) (.list ds) (.list es) := .lls k
theorem Kins.nilL (n : Nat) (es : List D) : Kins n [] es := fun j h => absurd h (Nat.not_lt_zero j)
theorem Kins.nilR (n : Nat) (es : List D) : Kins n es [] := fun j _ h => absurd h (Nat.not_lt_zero j)
theorem Kins.cons {n : Nat} {d e : D} {ds es : List D} (k : Kin n d e) (ks : Kins n ds es) : Kins n (d :: ds) (e :: es) := fun j => by
  cases j with
  | zero => exact fun _ _ => k
  | succ j => exact fun h h' => ks j (Nat.lt_of_succ_lt_succ h) (Nat.lt_of_succ_lt_succ h')
noncomputable def deqI (a : Int) : D → Bool
  | .int b => a == b
  | .flt b => b == 2 * a
  | _ => false
noncomputable def deqF (a : Int) : D → Bool
  | .int b => a == 2 * b
  | _ => false
noncomputable def deqB (a : Bool) : D → Bool
  | .bool b => a == b
  | _ => false
noncomputable def deqT (a : Str) : D → Bool
  | .str b => a == b
  | _ => false
noncomputable def listOf : D → Option (List D)
  | .list es => some es
  | _ => none
noncomputable def uncons (f : D → List D → Bool) : List D → Bool
  | [] => true
  | e :: es => f e es
mutual
noncomputable def deq : D → D → Bool
  | .int a => deqI a
  | .flt a => deqF a
  | .bool a => deqB a
  | .str a => deqT a
  | .list ds => fun e => (listOf e).any fun es => ds.length == es.length && deqs ds es
  | .tup _ => fun _ => false
  | .val _ => fun _ => false
noncomputable def deqs : List D → List D → Bool
  | [] => fun _ => true
  | d :: ds => uncons fun e es => deq d e && deqs ds es
end
theorem deq_ll (ds es : List D) : deq (.list ds) (.list es) = (ds.length == es.length && deqs ds es) := rfl
theorem deqs_cons (d e : D) (ds es : List D) : deqs (d :: ds) (e :: es) = (deq d e && deqs ds es) := rfl
theorem deq_len {ds es : List D} (h : ds.length ≠ es.length) : deq (.list ds) (.list es) = false := by
  rw [deq_ll, beq_false_of_ne h]; rfl
theorem deq_eq {ds es : List D} (h : ds.length = es.length) : deq (.list ds) (.list es) = deqs ds es := by
  rw [deq_ll, h, beq_self_eq_true]; rfl
theorem deqs_of : ∀ {ds es : List D}, (∀ j, j < ds.length → j < es.length → deq (nth ds j) (nth es j) = true) → deqs ds es = true := by
  intro ds
  induction ds with
  | nil => exact fun _ => rfl
  | cons d ds ih =>
    intro es
    cases es with
    | nil => exact fun _ => rfl
    | cons e es =>
      intro k
      rw [deqs_cons, ih fun j h h' => k (j + 1) (Nat.succ_lt_succ h) (Nat.succ_lt_succ h'), Bool.and_true]
      exact k 0 (Nat.zero_lt_succ _) (Nat.zero_lt_succ _)
theorem deqs_range : ∀ {ds es : List D}, ds.length = es.length → (List.range ds.length).all (fun j => deq (nth ds j) (nth es j)) = deqs ds es := by
  intro ds
  induction ds with
  | nil => exact fun _ => rfl
  | cons d ds ih =>
    intro es
    cases es with
    | nil => exact fun h => absurd h (Nat.succ_ne_zero _)
    | cons e es =>
      intro h
      rw [List.length_cons, List.range_succ_eq_map, List.all_cons, List.all_map, deqs_cons, ← ih (Nat.succ.inj h)]; rfl
theorem kins_of {α β : Type} (n : Nat) (f : α → D) (g : β → D) (h : ∀ x y, Kin n (f x) (g y)) : ∀ (xs : List α) (ys : List β), Kins n (xs.map f) (ys.map g) := by
  intro xs
  induction xs with
  | nil => exact fun _ => .nilL _ _
  | cons x xs ih =>
    intro ys
    cases ys with
    | nil => exact .nilR _ _
    | cons y ys => exact .cons (h x y) (ih ys)
theorem deqs_map {α : Type} (f g : α → D) (xs : List α) (h : ∀ x, deq (f x) (g x) = true) : deqs (xs.map f) (xs.map g) = true := by
  induction xs with
  | nil => rfl
  | cons x r ih => rw [List.map_cons, List.map_cons, deqs_cons, h, ih]; rfl
theorem deq_map {α : Type} (f g : α → D) (xs : List α) (h : ∀ x, deq (f x) (g x) = true) : deq (.list (xs.map f)) (.list (xs.map g)) = true := by
  rw [deq_eq (by rw [List.length_map, List.length_map])]; exact deqs_map f g xs h
theorem deq_nil (xs : List D) : deq (.list xs) (.list []) = decide (xs = []) := by
  cases xs with
  | nil => rfl
  | cons x xs => exact (decide_eq_false (List.cons_ne_nil x xs)).symm
theorem eqAt_ne {A : Around} {s : Shared} {x : UInt64} {t u : Tok} {i : Int} {k : Bool} : (RcAt A s (.float x t) (.int i u) k → EqAt A s (.float x t) (.int i u) k) ∧ (RcAt A s (.int i u) (.float x t) k → EqAt A s (.int i u) (.float x t) k) :=
  ⟨fun h prog w E Q hq => wpAny_holding (wpAny_ite_split (fun h => ft_ h) fun _ => wpAny_bind (h prog w E _ (wpAny_truthy_bool hq))),
    fun h prog w E Q hq => wpAny_holding (wpAny_ite_split (fun h => ft_ h) fun _ => wpAny_bind (h prog w E _ (wpAny_truthy_bool hq)))⟩
theorem RcAt.flt_int {A : Around} {s : Shared} {x : UInt64} {t : Tok} {k i : Int} {u : Tok} (h : FV x k) : RcAt A s (.float x t) (.int i u) (k == 2 * i) := fun prog w E Q hq => by
  show wpAny _ A (compareOp .Eq (.float x t) (.int i u)) Q E s
  exact eq_fi (by rw [h.cmpInt, some_beq]; exact hq)
theorem RcAt.int_flt {A : Around} {s : Shared} {x : UInt64} {t : Tok} {k i : Int} {u : Tok} (h : FV x k) : RcAt A s (.int i u) (.float x t) (k == 2 * i) := fun prog w E Q hq => by
  show wpAny _ A (compareOp .Eq (.int i u) (.float x t)) Q E s
  exact eq_if (by rw [h.cmpInt, some_beq]; exact hq)
-- the same value
theorem Plain.uniq {h : Heap} {T : String} {a : Addr} {vs ws : List Value} (p : Plain h T a vs) (q : Plain h T a ws) : vs = ws := by
  obtain ⟨m, e⟩ := p; obtain ⟨m', e'⟩ := q
  have e := e.symm.trans e'
  exact congrArg (fun o : Option Obj => match o with | some o => (match o.data with | .seq vs _ => vs.toList | _ => []) | none => []) e
theorem Reps.at {h : Heap} {X : List Addr} {vs : List Value} {ds : List D} (r : Reps h X vs ds) {j : Nat} (hj : j < ds.length) (hv : j < vs.toArray.size) : Rep h X vs.toArray[j] (nth ds j) := by
  obtain ⟨v, e, q⟩ := r.get (List.getElem?_eq_getElem hj)
  have e1 : nth ds j = ds[j] := by unfold nth; rw [List.getD_eq_getElem?_getD, List.getElem?_eq_getElem hj]; rfl
  rw [e1, List.getElem_toArray, Option.some.inj ((List.getElem?_eq_getElem hv).symm.trans e)]
  exact q
theorem Reps.size {h : Heap} {X : List Addr} {vs : List Value} {ds : List D} (r : Reps h X vs ds) : vs.toArray.size = ds.length := r.length
theorem deq_same {h : Heap} {X Y : List Addr} {n : Nat} {d e : D} (k : Kin n d e) : ∀ {v : Value}, Rep h X v d → Rep h Y v e → deq d e = true := by
  induction k with
  | ii n a b => exact fun r => r.onInt (P := fun v => Rep h Y v (.int b) → deq (.int a) (.int b) = true) fun _ q => by cases q; exact beq_self_eq_true _
  | fi n a b => exact fun r => r.onFlt (P := fun v => Rep h Y v (.int b) → deq (.flt a) (.int b) = true) fun _ _ _ q => Exists.elim q.inv fun _ e => Value.noConfusion e
  | jf n a b => exact fun r => r.onInt (P := fun v => Rep h Y v (.flt b) → deq (.int a) (.flt b) = true) fun _ q => Exists.elim q.inv fun _ q => Exists.elim q fun _ q => Value.noConfusion q.2
  | bb n a b => exact fun r => r.onBool (P := fun v => Rep h Y v (.bool b) → deq (.bool a) (.bool b) = true) fun q => by cases q; exact beq_self_eq_true _
  | ss n a b => exact fun r => r.onStr (P := fun v => Rep h Y v (.str b) → deq (.str a) (.str b) = true) fun _ _ q => by cases q; exact beq_self_eq_true _
  | @lls n ds es k ih =>
    exact fun r => r.onList (P := fun v => Rep h Y v (.list es) → deq (.list ds) (.list es) = true) fun a vs _ p _ rs q => by
      generalize hu : Value.ref a = u at q
      revert hu
      refine q.onList (P := fun u => Value.ref a = u → deq (.list ds) (.list es) = true) fun b ws _ p' _ qs e => ?_
      injection e with e
      rw [← e] at p'
      have e := p.uniq p'
      rw [← e] at qs
      rw [deq_eq (rs.length.symm.trans qs.length)]
      exact deqs_of fun j h1 h2 => ih j h1 h2 (rs.at h1 (rs.size ▸ h1)) (qs.at h2 (rs.size ▸ h1))
theorem rcAt (n : Nat) {s : Shared} {X Y : List Addr} {d e : D} (k : Kin n d e) : ∀ {A : Around} {v u : Value}, A.units + n < cLine → Rep s.heap X v d → Rep s.heap Y u e → RcAt A s v u (deq d e) ∧ EqAt A s v u (deq d e) := by
  induction k with
  | ii n a b => exact fun {A v u} _ r => r.onInt (P := fun v => Rep s.heap Y u (.int b) → RcAt A s v u (a == b) ∧ EqAt A s v u (a == b)) fun t q => q.onInt (P := fun u => RcAt A s (.int a t) u (a == b) ∧ EqAt A s (.int a t) u (a == b)) fun _ => ⟨.int_int _ _ _ _, .int_int _ _ _ _⟩
  | fi n a b => exact fun {A v u} _ r => r.onFlt (P := fun v => Rep s.heap Y u (.int b) → RcAt A s v u (a == 2 * b) ∧ EqAt A s v u (a == 2 * b)) fun x t hk q => q.onInt (P := fun u => RcAt A s (.float x t) u (a == 2 * b) ∧ EqAt A s (.float x t) u (a == 2 * b)) fun _ => ⟨RcAt.flt_int hk, eqAt_ne.1 (RcAt.flt_int hk)⟩
  | jf n a b => exact fun {A v u} _ r => r.onInt (P := fun v => Rep s.heap Y u (.flt b) → RcAt A s v u (b == 2 * a) ∧ EqAt A s v u (b == 2 * a)) fun t q => q.onFlt (P := fun u => RcAt A s (.int a t) u (b == 2 * a) ∧ EqAt A s (.int a t) u (b == 2 * a)) fun _ _ hk => ⟨RcAt.int_flt hk, eqAt_ne.2 (RcAt.int_flt hk)⟩
  | bb n a b => exact fun {A v u} _ r => r.onBool (P := fun v => Rep s.heap Y u (.bool b) → RcAt A s v u (a == b) ∧ EqAt A s v u (a == b)) fun q => q.onBool (P := fun u => RcAt A s (.bool a) u (a == b) ∧ EqAt A s (.bool a) u (a == b)) ⟨.bool_bool _ _, .bool_bool _ _⟩
  | ss n a b => exact fun {A v u} _ r => r.onStr (P := fun v => Rep s.heap Y u (.str b) → RcAt A s v u (a == b) ∧ EqAt A s v u (a == b)) fun t _ q => q.onStr (P := fun u => RcAt A s (.str a t) u (a == b) ∧ EqAt A s (.str a t) u (a == b)) fun _ _ => ⟨.str_str _ _ _ _, .str_str _ _ _ _⟩
  | @lls n ds es k ih =>
    intro A v u hu r q
    have hs := deq_same (Y := Y) (.lls k) r
    revert hs
    refine r.onList (P := fun v => (Rep s.heap Y v (.list es) → _) → RcAt A s v u _ ∧ EqAt A s v u _) fun a vs _ p _ rs => ?_
    refine q.onList (P := fun u => (Rep s.heap Y (.ref a) (.list es) → _) → RcAt A s (.ref a) u _ ∧ EqAt A s (.ref a) u _) fun b ws hb p' hl qs hs => ?_
    have hrc : RcAt A s (.ref a) (.ref b) (deq (.list ds) (.list es)) := by
      by_cases hlen : ds.length = es.length
      · rw [deq_eq hlen, ← deqs_range hlen, ← rs.size]
        exact RcAt.lists p.isList p'.isList (rs.size.trans (hlen.trans qs.size.symm)) (Nat.lt_of_le_of_lt (Nat.le_add_right _ _) hu) fun j h1 h2 =>
          (ih j (rs.size ▸ h1) (qs.size ▸ h2) (A := A.in1) (by rw [Around.in1_units, Nat.add_assoc, Nat.add_comm 1]; exact hu) (rs.at (rs.size ▸ h1) h1) (qs.at (qs.size ▸ h2) h2)).2
      · rw [deq_len hlen]
        exact RcAt.lists_lengths p.isList p'.isList (by rw [rs.size, qs.size]; exact bne_iff_ne.mpr hlen) (Nat.lt_of_le_of_lt (Nat.le_add_right _ _) hu)
    refine ⟨hrc, ?_⟩
    by_cases hab : a = b
    · subst hab
      rw [hs (.list hb p' hl qs)]
      exact .same _
    · exact .of_refs hab hrc
noncomputable def Has (vs : List Value) (ds : List D) (d : D) (y : Value) : Prop := ∃ (j : Nat) (d' : D), vs[j]? = some y ∧ ds[j]? = some d' ∧ deq d' d = true
open Classical in
theorem any_has {h : Heap} {X : List Addr} {vs : List Value} {ds : List D} {d : D} (rs : Reps h X vs ds) : vs.toArray.any (fun y => decide (Has vs ds d y)) = ds.any fun e => deq e d := by
  rw [Bool.eq_iff_iff, List.any_toArray, List.any_eq_true, List.any_eq_true]
  constructor
  · rintro ⟨y, hy, q⟩
    obtain ⟨j, d', h1, h2, h3⟩ := of_decide_eq_true q
    exact ⟨d', List.mem_of_getElem? h2, h3⟩
  · rintro ⟨d', hd, h3⟩
    obtain ⟨j, h2⟩ := List.mem_iff_getElem?.mp hd
    obtain ⟨y, h1, _⟩ := rs.get h2
    exact ⟨y, List.mem_of_getElem? h1, decide_eq_true ⟨j, d', h1, h2, h3⟩⟩
section
variable {c : Cfg} {n : Nat}
theorem OkA.eqRoom {A : Around} (h : OkA c n A) : A.units + 8 < cLine := Nat.lt_of_le_of_lt (Nat.le_trans (Nat.add_le_add (Nat.le_add_right _ _) (by decide)) (Nat.le_refl _)) h.units
theorem OkA.eqRoom1 {A : Around} (h : OkA c n A) : A.in1.units + 7 < cLine := by rw [Around.in1_units, Nat.add_assoc]; exact h.eqRoom
theorem Op2.eq {d e : D} (k : Kin 8 d e) : Op2 c n (compareOp .Eq) d e (.bool (deq d e)) := fun A X s E v u hA _ _ r q =>
  (rcAt 8 k (A := A) hA.eqRoom r q).1 _ _ _ _ ⟨.bool _, .refl _⟩
theorem Op2.neLL {ds es : List D} (k : Kins 7 ds es) : Op2 c n (compareOp .NotEq) (.list ds) (.list es) (.bool (!deq (.list ds) (.list es))) := fun A X s E v u hA _ _ r q => by
  have hu := Nat.lt_of_le_of_lt (Nat.le_add_right _ _) hA.eqRoom
  refine r.onList (P := fun v => wpAny _ A (compareOp .NotEq v u) _ E s) fun a vs _ p _ rs => ?_
  refine q.onList (P := fun u => wpAny _ A (compareOp .NotEq (.ref a) u) _ E s) fun b ws _ p' _ qs => ?_
  by_cases hlen : ds.length = es.length
  · rw [deq_eq hlen, ← deqs_range hlen, ← rs.size]
    exact (RcNeAt.lists (e := fun j => deq (nth ds j) (nth es j)) p.isList p'.isList (rs.size.trans (hlen.trans qs.size.symm)) hu fun j h1 h2 =>
      (rcAt 7 (k j (rs.size ▸ h1) (qs.size ▸ h2)) (A := A.in1) hA.eqRoom1 (rs.at (rs.size ▸ h1) h1) (qs.at (qs.size ▸ h2) h2)).2) _ _ _ _ ⟨.bool _, .refl _⟩
  · rw [deq_len hlen]
    exact (RcNeAt.lists_lengths p.isList p'.isList (by rw [rs.size, qs.size]; exact bne_iff_ne.mpr hlen) hu) _ _ _ _ ⟨.bool _, .refl _⟩
theorem Op2.neB (a b : Bool) : Op2 c n (compareOp .NotEq) (.bool a) (.bool b) (.bool (a != b)) := fun A X s E v u hA _ _ r q =>
  r.onBool (P := fun v => wpAny _ A (compareOp .NotEq v u) _ E s) (q.onBool (P := fun u => wpAny _ A (compareOp .NotEq (.bool a) u) _ E s) (ne_bool ⟨.bool _, .refl _⟩))
open Classical in
theorem Op2.notInL {d : D} {ds : List D} (k : ∀ e ∈ ds, Kin 7 e d) : Op2 c n (compareOp .NotIn) d (.list ds) (.bool (!ds.any fun e => deq e d)) := fun A X s E v u hA _ _ r q => by
  have hu := hA.eqRoom1
  refine q.onList (P := fun u => wpAny _ A (compareOp .NotIn v u) _ E s) fun a vs _ p _ rs => ?_
  clear hA q
  refine notIn_listAt (fun y => decide (Has vs ds d y)) p.isList (fun y hy => ?_) ⟨by rw [any_has rs]; exact .bool _, .refl _⟩
  obtain ⟨j, hj⟩ := List.mem_iff_getElem?.mp (Array.mem_toList_iff.mpr hy)
  obtain ⟨d', h2, rv⟩ := rs.get' hj
  by_cases he : Has vs ds d y
  · obtain ⟨j', d', h1, h2, h3⟩ := he
    obtain ⟨d'', h4, rv⟩ := rs.get' h1
    have h4 := Option.some.inj (h2.symm.trans h4)
    rw [decide_eq_true ⟨j', d', h1, h2, h3⟩, ← h3]
    exact (rcAt 7 (k _ (List.mem_of_getElem? h2)) (A := A.in1) hu (h4 ▸ rv) r).2
  · rw [decide_eq_false he, ← Bool.eq_false_iff.mpr fun hq => he ⟨j, d', hj, h2, hq⟩]
    exact (rcAt 7 (k _ (List.mem_of_getElem? h2)) (A := A.in1) hu rv r).2
/-- floats -/
theorem Op2.flt_lt (a b : Int) : Op2 c n (compareOp .Lt) (.flt a) (.flt b) (.bool (decide (a < b))) := fun A X s E v u _ _ _ r q =>
  r.onFlt (P := fun v => wpAny _ A (compareOp .Lt v u) _ E s) fun x t hk => q.onFlt (P := fun u => wpAny _ A (compareOp .Lt (.float x t) u) _ E s) fun y t' hk' => AutoFloatOps.lt_0 ⟨by rw [hk.cmp hk', some_blt]; exact .bool _, .refl _⟩
theorem Op2.flt_eq (a b : Int) : Op2 c n (compareOp .Eq) (.flt a) (.flt b) (.bool (decide (a = b))) := fun A X s E v u _ _ _ r q =>
  r.onFlt (P := fun v => wpAny _ A (compareOp .Eq v u) _ E s) fun x t hk => q.onFlt (P := fun u => wpAny _ A (compareOp .Eq (.float x t) u) _ E s) fun y t' hk' => AutoFloatOps.eq_0 ⟨by rw [hk.cmp hk', some_beq]; exact .bool _, .refl _⟩
end
end
section
open PySem PySem.W PyProof.Rows
variable [Lo]
/-- the cells of a new frame over a closure -/
structure CellsIn (h : Heap) (lo : Nat) (cl cs : List (Str × Addr)) : Prop where
  cell : ∀ n c, (n, c) ∈ cs → ∃ v, h.IsCell c v
  apart : cs.Pairwise fun x y => x.2 ≠ y.2
  new : ∀ n c, (n, c) ∈ cs → (n, c) ∈ cl ∨ lo ≤ c
theorem cellsFrom_in : ∀ (names : List (Str × NameKind)) (h : Heap) (lo : Nat) (cl acc : List (Str × Addr)), CellsIn h lo cl acc → lo ≤ h.objs.size → CellsIn (pushCells h names) lo cl (cellsFrom h.objs.size names acc)
  | [], _, _, _, _, x, _ => x
  | (name, kind) :: r, h, lo, cl, acc, x, hlo => by
    unfold pushCells cellsFrom
    split
    · have := cellsFrom_in r (h.push { cls := .type "cell", data := .cell none }) lo cl ((name, h.objs.size) :: acc)
        ⟨fun n c hm => by
            rcases List.mem_cons.mp hm with e | hm
            · cases e; exact ⟨none, _, Heap.get?_push_size _ rfl, rfl⟩
            · obtain ⟨v, hv⟩ := x.cell n c hm; exact ⟨v, hv.keeps fun b o e => Heap.get?_push_of_some _ e⟩,
          List.pairwise_cons.mpr ⟨fun y hy e => by
            obtain ⟨v, hv⟩ := x.cell y.1 y.2 hy
            have hlt := hv.lt
            have e' : h.objs.size = y.2 := e
            exact Nat.lt_irrefl _ (e' ▸ hlt), x.apart⟩,
          fun n c hm => by
            rcases List.mem_cons.mp hm with e | hm
            · cases e; exact .inr hlo
            · exact x.new n c hm⟩ (by rw [Heap.size_push]; exact z473 hlo)
      rwa [Heap.size_push] at this
    · exact cellsFrom_in r h lo cl acc x hlo
theorem cellsFrom_acc (names : List (Str × NameKind)) : ∀ (n : Nat) (acc : List (Str × Addr)) (x : Str), (∃ c, acc.lookup x = some c) → ∃ c, (cellsFrom n names acc).lookup x = some c := by
  induction names with
  | nil => exact fun _ _ _ h => h
  | cons p r ih =>
    intro n acc x hc
    unfold cellsFrom
    split
    · refine ih _ _ x ?_
      rw [List.lookup_cons]
      cases x == p.1 with
      | true => exact ⟨_, rfl⟩
      | false => exact hc
    · exact ih _ _ x hc
theorem cellsFrom_has (names : List (Str × NameKind)) : ∀ (n : Nat) (acc : List (Str × Addr)) (x : Str), (x, NameKind.cell) ∈ names → ∃ c, (cellsFrom n names acc).lookup x = some c := by
  induction names with
  | nil => exact fun _ _ _ h => absurd h List.not_mem_nil
  | cons p r ih =>
    intro n acc x h
    unfold cellsFrom
    rcases List.mem_cons.mp h with e | h
    · rw [← e, if_pos (by rfl)]
      exact cellsFrom_acc r _ _ _ ⟨n, by rw [List.lookup_cons, beq_self_eq_true]⟩
    · split
      · exact ih _ _ x h
      · exact ih _ _ x h
/-- where the closure stands the new cells shadow none of its names -/
theorem cellsFrom_old : ∀ (names : List (Str × NameKind)) (n : Nat) (acc : List (Str × Addr)) (x : Str) (c : Addr), acc.lookup x = some c → (x, NameKind.cell) ∉ names → (cellsFrom n names acc).lookup x = some c
  | [], _, _, _, _, h, _ => h
  | (name, kind) :: r, n, acc, x, c, h, hn => by
    have hr : (x, NameKind.cell) ∉ r := fun h => hn (.tail _ h)
    unfold cellsFrom
    split
    · rename_i hk
      refine cellsFrom_old r _ _ x c ?_ hr
      have : ¬ x = name := by rintro rfl; exact hn (by rw [eq_of_beq hk]; exact .head _)
      rw [List.lookup_cons, beq_eq_false_iff_ne.mpr this]; exact h
    · exact cellsFrom_old r _ _ x c h hr
/-- the frame's own names' kinds are told by the first place of each -/
noncomputable def uniqNames (names : Names) : Bool := names.all fun p => names.lookup p.1 == some p.2
section
variable {c : Cfg} {A : Around} {E : Value → Shared → Prop} {s : Shared}
noncomputable def ownCells (scope : Scope) (s : Shared) (cl : List (Str × Addr)) : List (Str × Addr) := cellsFrom (s.heap.objs.size + 1) scope.names cl
theorem Reps.unDs {h : Heap} {X : List Addr} {v : Value} {vs : List Value} {ds : List D} (r : Reps h X (v :: vs) ds) : ∃ d ds', (Rep h X v d ∧ Reps h X vs ds') ∧ ds = d :: ds' := by
  cases ds with
  | nil => exact absurd (show v :: vs = [] from r.inv) (List.cons_ne_nil _ _)
  | cons d ds =>
    obtain ⟨u, ws, ⟨q, rs⟩, e⟩ := r.inv
    injection e with e1 e2
    exact ⟨d, ds, ⟨e1 ▸ q, e2 ▸ rs⟩, rfl⟩
theorem Turned.seqK {o : Own} {X Y : List Addr} {env : Env} {ρ : Vars} {x : Str} {h h' : Heap} {b : Addr} (t : Turned env x h h' b) (W : EnvOK o X h env ρ) : SeqKeep Y h h' := fun a T vs n _ e => by
  refine (t.same.2 a fun hab => ?_).trans e
  rcases t.place with q | q
  · obtain ⟨m, hm⟩ := W.ns; exact not_seq_of_ns hm (q ▸ hab ▸ e)
  · obtain ⟨u, hu⟩ := W.cells _ _ (mem_of_lookup q); exact not_seq_of_cell hu (hab ▸ e)
/-- the parameters, one by one -/
theorem bindAll {scope : Scope} {cl : List Str} {s₀ : Shared} {env : Env} {X : List Addr} (hcl : ∀ x ∈ cl, scope.names.lookup x = some .free) (henv : env.scope = scope) (binds : List (Str × Value)) :
    ∀ (ds : List D) (ρ : Vars) (s : Shared) (Q : PUnit → Shared → Prop), (∀ p ∈ binds, scope.names.lookup p.1 = some .local ∨ scope.names.lookup p.1 = some .cell) → EnvOK none X s.heap env ρ → Base cl s₀ env s → Reps s.heap X (binds.map (·.2)) ds →
      (∀ s', EnvOK none X s'.heap env (((binds.map (·.1)).zip ds).reverse ++ ρ) → Base cl s₀ env s' → Q ⟨⟩ s') → wpAny (model c.prog c.w) A (forIn binds PUnit.unit fun (x : Str × Value) (_ : PUnit) => do storeName env x.1 x.2; pure (ForInStep.yield PUnit.unit)) Q E s := by
  induction binds with
  | nil =>
    intro ds ρ s Q _ W B r h
    rw [List.forIn_nil]; exact wpAny_pure (h s W B)
  | cons p rest ih =>
    intro ds ρ s Q hk W B r h
    have hx := hk p (.head _)
    have hk' := fun q hq => hk q (.tail _ hq)
    have hkx : env.kindOf p.1 = some .local ∨ env.kindOf p.1 = some .cell := by unfold Env.kindOf; rw [henv]; exact hx
    have hxc : p.1 ∉ cl := fun hm => hx.elim (fun q => NameKind.noConfusion (Option.some.inj (q.symm.trans (hcl _ hm)))) fun q => NameKind.noConfusion (Option.some.inj (q.symm.trans (hcl _ hm)))
    clear hk hx
    obtain ⟨d, ds', ⟨r, rs⟩, e⟩ := r.unDs
    rw [e] at h
    clear e
    rw [List.forIn_cons]
    refine wpAny_bind (wpAny_bind (wpAny_store W (W.stores hkx) (fun _ _ e => ns_ e) r fun h' tk b W' t => wpAny_pure ?_))
    refine ih ds' _ _ Q hk' W' (B.turn hxc t) (rs.keep (t.seqK W)) fun s' W'' B' => h s' ?_ B'
    rw [show ((p :: rest).map (·.1)).zip (d :: ds') = (p.1, d) :: (rest.map (·.1)).zip ds' from rfl, List.reverse_cons, List.append_assoc]; exact W''
theorem wpAny_newFrame {scope : Scope} {cl : List (Str × Addr)} {binds : List (Str × Value)} {ds : List D} {qual : Str} {func : Option Addr} {code : Value} {around : Option Env} {X : List Addr} {Q : Env → Shared → Prop}
    (hW : c.Wf s.heap) (hk : scope.kind = .function) (hX : Alive X s.heap)
    (hcl : ∀ n a, (n, a) ∈ cl → (∃ v, s.heap.IsCell a v) ∧ scope.names.lookup n = some .free) (hap : cl.Pairwise fun x y => x.2 ≠ y.2) (hfree : ∀ n, scope.names.lookup n = some .free → ∃ a, cl.lookup n = some a)
    (hb : ∀ p ∈ binds, scope.names.lookup p.1 = some .local ∨ scope.names.lookup p.1 = some .cell) (r : Reps s.heap X (binds.map (·.2)) ds) (ha : ∀ o, around = some o → o.builtins = builtinsNs)
    (h : ∀ env s', env.scope = scope → env.locals = s.heap.objs.size → env.cells = ownCells scope s cl → env = newEnv scope s.heap.objs.size mainGlobals (ownCells scope s cl) qual func code around builtinsNs → EnvOK none X s'.heap env ((binds.map (·.1)).zip ds).reverse → Base (cl.map (·.1)) s env s' → Q env s') :
    wpAny (model c.prog c.w) A (newFunctionEnv scope mainGlobals cl binds qual func code around builtinsNs) Q E s := by
  obtain ⟨hg, hbu⟩ := c.gl _ hW
  have key : ∀ (T : String), wpAny (model c.prog c.w) A (do
      let locals ← alloc { cls := .type T, data := .dict #[] }
      let cells ← forIn scope.names cl fun (x : Str × NameKind) cells => if x.2 == .cell then (do let a ← alloc { cls := .type "cell", data := .cell none }; pure (ForInStep.yield ((x.1, a) :: cells))) else pure (ForInStep.yield cells)
      let env : Env := newEnv scope locals mainGlobals cells qual func code around builtinsNs
      let _ ← forIn binds PUnit.unit fun (x : Str × Value) (_ : PUnit) => do storeName env x.1 x.2; pure (ForInStep.yield PUnit.unit)
      return env) Q E s := fun T => by
    refine wpAny_bind (wpAny_alloc ?_)
    refine wpAny_bind (wpAny_layCells _ (fun name kind cells => rfl) _ _ _ _ ?_)
    have hsz : ({ s with heap := s.heap.push { cls := .type T, data := .dict #[] } } : Shared).heap.objs.size = s.heap.objs.size + 1 := Heap.size_push ..
    rw [hsz]
    have k0 : ∀ b o, s.heap.get? b = some o → (pushCells (s.heap.push { cls := .type T, data := .dict #[] }) scope.names).get? b = some o := fun b o e => pushCells_keeps _ _ b o (Heap.get?_push_of_some _ e)
    have ok := cellsFrom_in scope.names (s.heap.push { cls := .type T, data := .dict #[] }) (s.heap.objs.size + 1) cl cl
      ⟨fun n a hm => by obtain ⟨⟨v, hv⟩, _⟩ := hcl n a hm; exact ⟨v, hv.keeps fun b o e => Heap.get?_push_of_some _ e⟩, hap, fun n a hm => .inl hm⟩ (by rw [Heap.size_push]; exact Nat.le_refl _)
    rw [Heap.size_push] at ok
    generalize henv : newEnv scope s.heap.objs.size mainGlobals (cellsFrom (s.heap.objs.size + 1) scope.names cl) qual func code around builtinsNs = env
    have e1 : env.scope = scope := by rw [← henv]; cases around <;> rfl
    have e2 : env.locals = s.heap.objs.size := by rw [← henv]; cases around <;> rfl
    have e3 : env.cells = ownCells scope s cl := by rw [← henv]; cases around <;> rfl
    have e4 : env.globals = mainGlobals := by rw [← henv]; cases around <;> rfl
    have e5 : env.builtins = builtinsNs := by rw [← henv]; cases around with | none => rfl | some o => exact ha o rfl
    have fresh : ∀ a, s.heap.objs.size ≤ a → s.heap.get? a = none := fun a ha => by
      cases e : s.heap.get? a with
      | none => rfl
      | some o => exact absurd (Heap.lt_size e) (Nat.not_lt.mpr ha)
    have W₀ : EnvOK none X (pushCells (s.heap.push { cls := .type T, data := .dict #[] }) scope.names) env [] := {
      kind := by rw [e1]; exact hk
      glob := e4
      built := e5
      ns := ⟨_, by rw [e2]; exact (Heap.Ns.new s.heap (.type T)).keeps (pushCells_keeps _ _)⟩
      cells := fun x a hm => by rw [e3] at hm; exact ok.cell x a hm
      apart := by rw [e3]; exact ok.apart
      has := fun x hx => by
        rw [e3]
        unfold Env.kindOf at hx
        rw [e1] at hx
        rcases hx with hx | hx
        · exact cellsFrom_has _ _ _ x (mem_of_lookup hx)
        · exact cellsFrom_acc _ _ _ x (hfree x hx)
      lg := by rw [e2]; intro e; obtain ⟨o, ho⟩ := hg; rw [← e] at ho; exact Nat.lt_irrefl _ (Heap.lt_size ho)
      lb := by rw [e2]; intro e; obtain ⟨o, ho⟩ := hbu; rw [← e] at ho; exact Nat.lt_irrefl _ (Heap.lt_size ho)
      look := fun x d e => by cases e
      own := hX.keeps (.of k0) }
    have B₀ : Base (cl.map (·.1)) s env { s with heap := pushCells (s.heap.push { cls := .type T, data := .dict #[] }) scope.names } := {
      kp := ⟨.of k0, rfl, fun x => x⟩
      loc := by rw [e2]; exact fresh _ (Nat.le_refl _)
      cells := fun x a hx => by
        rw [e3] at hx
        rcases ok.new x a (mem_of_lookup hx) with q | q
        · exact .inl (List.mem_map.mpr ⟨_, q, rfl⟩)
        · exact .inr (fresh a (Nat.le_of_succ_le q)) }
    refine wpAny_bind (bindAll (scope := scope) (fun x hx => ?_) e1 binds ds [] _ _ hb W₀ B₀ (r.keeps (.of k0)) fun s' W' B' => wpAny_pure (h env s' e1 e2 e3 henv.symm (by simpa using W') B'))
    obtain ⟨⟨n, a⟩, hm, rfl⟩ := List.mem_map.mp hx
    exact (hcl n a hm).2
  cases around with
  | none => exact key "frame"
  | some o => exact key "dict"
end
end
section
open PySem PySem.W PyProof.Rows
variable [Lo]
/-- what an iterator hands out -/
inductive Shape
  | val (v : Value)
  | int (i : Int)
  | pair (a b : Value)
noncomputable def Shape.is : Shape → Value → Heap → Prop
  | .val u, v, _ => v = u
  | .int i, v, _ => ∃ t, v = .int i t
  | .pair a b, v, h => ∃ T, v = .ref T ∧ h.IsTuple T #[a, b]
inductive ShRep (h : Heap) (X : List Addr) : Shape → D → Prop
  | val {v : Value} {d : D} : Rep h X v d → ShRep h X (.val v) d
  | int (i : Int) : ShRep h X (.int i) (.int i)
  | pair {a b : Value} {d e : D} : Rep h X a d → Rep h X b e → ShRep h X (.pair a b) (.tup [d, e])
theorem ShRep.keep {h h' : Heap} {X : List Addr} (k : SeqKeep X h h') {sh : Shape} {d : D} (r : ShRep h X sh d) : ShRep h' X sh d := by
  cases r with
  | val r => exact .val (r.keep k)
  | int i => exact .int i
  | pair r q => exact .pair (r.keep k) (q.keep k)
noncomputable def ShReps (h : Heap) (X : List Addr) (shs : List Shape) (ds : List D) : Prop := shs.length = ds.length ∧ ∀ (i : Nat) (sh : Shape) (d : D), shs[i]? = some sh → ds[i]? = some d → ShRep h X sh d
theorem ShReps.keep {h h' : Heap} {X : List Addr} (k : SeqKeep X h h') {shs : List Shape} {ds : List D} (r : ShReps h X shs ds) : ShReps h' X shs ds := ⟨r.1, fun i sh d e e' => (r.2 i sh d e e').keep k⟩
noncomputable def NoEnv (h : Heap) (b : Addr) : Prop := (∀ m, ¬ h.Ns b m) ∧ ∀ v, ¬ h.IsCell b v
/-- an iterator that hands out the shapes -/
structure Turns (c : Cfg) (A : Around) (target : Expr) (I : Addr) (fp wr : List Addr) (shs : List Shape) (St : Nat → Heap → Prop) : Prop where
  ex : ∃ Md, KTurns c.prog c.w A target I fp wr shs.length (fun i v h => ∃ sh, shs[i]? = some sh ∧ sh.is v h) Md St
  self : ∀ i (s : Shared) (Q : Value → Shared → Prop) (E : Value → Shared → Prop), St i s.heap → Q (.ref I) s → wpAny (model c.prog c.w) A (pyIter (.ref I)) Q E s
  live : ∀ i h, St i h → ∀ b ∈ wr, Here h b
  ntab : ∀ i h, St i h → ∀ b ∈ fp, ∀ o, h.get? b = some o → soft b o = false
  nm : ∀ x px, target = .Name x px → ∀ sh ∈ shs, ∀ a b, sh ≠ .pair a b
/-- the source of an iteration -/
noncomputable def Src (c : Cfg) (n : Nat) (names : Names) (o : Own) (ρ : Vars) (target iter : Expr) (ds : List D) : Prop :=
  (∀ env x, foldedSetIterable iter env x = pure x) ∧
  ∀ (A : Around) (env : Env) (X : List Addr) (s : Shared) (E : Value → Shared → Prop) (Q : Value → Shared → Prop), OkA c n A → env.scope.names = names → c.Wf s.heap → EnvOK o X s.heap env ρ →
    (∀ I fp wr shs St s₂, Kp s s₂ → Turns c A target I fp wr shs St → St 0 s₂.heap → (∀ b ∈ wr, s.heap.get? b = none) → (∀ b ∈ fp, b ∉ X) → (∀ b ∈ fp, Here s₂.heap b ∧ NoEnv s₂.heap b) → ShReps s₂.heap (wr ++ X) shs ds → Q (.ref I) s₂) →
    wpAny (model c.prog c.w) A (eval iter env) (fun x s₁ => wpAny (model c.prog c.w) A (pyIter x) Q E s₁) E s
/-- what an assignment to a target binds -/
inductive Binds (names : Names) (cl : List Str) : Expr → D → Vars → Prop
  | name (x : Str) (px : Pos) (d : D) : (names.lookup x = some .local ∨ names.lookup x = some .cell) → x ∉ cl → Binds names cl (.Name x px) d [(x, d)]
  | pair (x y : Str) (px py : Pos) (k : Nat) (pos : Pos) (d e : D) : (names.lookup x = some .local ∨ names.lookup x = some .cell) → x ∉ cl → (names.lookup y = some .local ∨ names.lookup y = some .cell) → y ∉ cl →
      Binds names cl (.Tuple [.Name x px, .Name y py] k pos) (.tup [d, e]) [(y, e), (x, d)]
noncomputable def binder : Expr → List Str
  | .Name x _ => [x]
  | .Tuple [.Name x _, .Name y _] _ _ => [x, y]
  | _ => []
inductive Item (h : Heap) (X : List Addr) : Value → D → Prop
  | rep {v : Value} {d : D} : Rep h X v d → Item h X v d
  | pair {T : Addr} {a b : Value} {d e : D} : h.IsTuple T #[a, b] → Rep h X a d → Rep h X b e → Item h X (.ref T) (.tup [d, e])
/-- all but the frame's own places -/
noncomputable def KeepEnv (env : Env) (s s' : Shared) : Prop := ∀ b o, b ≠ env.locals → (∀ x, env.cells.lookup x ≠ some b) → soft b o = false → s.heap.get? b = some o → s'.heap.get? b = some o
theorem KeepEnv.refl (env : Env) (s : Shared) : KeepEnv env s s := fun _ _ _ _ _ e => e
theorem KeepEnv.trans {env : Env} {s s' s'' : Shared} (a : KeepEnv env s s') (b : KeepEnv env s' s'') : KeepEnv env s s'' := fun x o h1 h2 h3 e => b x o h1 h2 h3 (a x o h1 h2 h3 e)
theorem KeepEnv.kp {env : Env} {s s' : Shared} (k : Kp s s') : KeepEnv env s s' := fun x o _ _ t e => k.heap.at' x o e t
theorem Turned.keepEnv {env : Env} {x : Str} {s : Shared} {h' : Heap} {b : Addr} {tk : Nat} (t : Turned env x s.heap h' b) : KeepEnv env s { s with heap := h', toks := tk } := fun a o h1 h2 _ e => by
  refine (t.same.2 a ?_).trans e
  rintro rfl
  rcases t.place with q | q
  · exact h1 q
  · exact h2 x q
theorem Turned.seqKeep {o : Own} {X Y : List Addr} {env : Env} {ρ : Vars} {x : Str} {h h' : Heap} {b : Addr} (W : EnvOK o X h env ρ) (t : Turned env x h h' b) : SeqKeep Y h h' := fun a T vs n _ e => by
  refine (t.same.2 a ?_).trans e
  rintro rfl
  rcases t.place with q | q
  · obtain ⟨m, hm⟩ := W.ns; rw [q] at e; exact not_seq_of_ns hm e
  · obtain ⟨u, hu⟩ := W.cells _ _ (mem_of_lookup q); exact not_seq_of_cell hu e
section
variable {c : Cfg} {n : Nat} {names : Names} {o : Own} {ρ : Vars} {cl : List Str} {A : Around} {E : Value → Shared → Prop} {s s₀ : Shared} {env : Env} {X : List Addr}
theorem Binds.run {target : Expr} {d : D} {bs : Vars} {v : Value} (b : Binds names cl target d bs) (hh : A.handled = none) (hn : env.scope.names = names) (W : EnvOK o X s.heap env ρ) (B : Base cl s₀ env s) (it : Item s.heap X v d) (hr : ∀ x px, target = .Name x px → Rep s.heap X v d) (ho : ∀ y ds, o = some (y, ds) → y ∉ binder target) :
    wpAny (model c.prog c.w) A (assign target env v) (fun _ s' => EnvOK o X s'.heap env (bs ++ ρ) ∧ Base cl s₀ env s' ∧ KeepEnv env s s') E s := by
  have kk : ∀ x, names.lookup x = some .local ∨ names.lookup x = some .cell → env.kindOf x = some .local ∨ env.kindOf x = some .cell := fun x h => by unfold Env.kindOf; rw [hn]; exact h
  cases b with
  | name x px _ hx hc =>
    have hox : ∀ y ds, o = some (y, ds) → y ≠ x := fun y ds e q => ho y ds e (by rw [q]; exact .head _)
    exact wpAny_assign_Name (wpAny_store W (W.stores (kk x hx)) hox (hr x px rfl) fun h' tk b W' t => ⟨W', B.turn hc t, t.keepEnv⟩)
  | pair x y px py k pos d e hx hcx hy hcy =>
    have hox : ∀ z ds, o = some (z, ds) → z ≠ x := fun z ds e q => ho z ds e (by rw [q]; exact .head _)
    have hoy : ∀ z ds, o = some (z, ds) → z ≠ y := fun z ds e q => ho z ds e (by rw [q]; exact .tail _ (.head _))
    obtain ⟨T, a, b, rfl, ht, ra, rb⟩ : ∃ T a b, v = .ref T ∧ s.heap.IsTuple T #[a, b] ∧ Rep s.heap X a d ∧ Rep s.heap X b e := by
      cases it with
      | pair ht ra rb => exact ⟨_, _, _, rfl, ht, ra, rb⟩
      | rep r =>
        obtain ⟨_, _, ⟨ha, p, hl, rs⟩, rfl⟩ := r.inv
        obtain ⟨a, b, rfl, ra, rb⟩ := rs.two
        exact ⟨_, a, b, rfl, p.isTuple, ra, rb⟩
    refine wpAny_assign_Tuple hh ht rfl rfl fun h₁ he => ?_
    have k₁ : Kp s { s with heap := h₁ } := ⟨.of fun b o e => he b o (Nat.ne_of_lt (Heap.lt_size e)) e, rfl, fun x => x⟩
    have W₁ := W.keeps k₁.heap
    have B₁ := B.step k₁
    refine wpAny_bind (wpAny_holding (wpAny_assign_Name (wpAny_store W₁ (W₁.stores (kk x hx)) hox (ra.kp k₁) fun h₂ tk b W₂ t => ?_)))
    have rb₂ := (rb.kp k₁).keep (t.seqKeep W₁ (Y := X))
    refine wpAny_bind (wpAny_holding (wpAny_assign_Name (wpAny_store W₂ (W₂.stores (kk y hy)) hoy rb₂ fun h₃ tk₃ b₃ W₃ t₃ => ?_)))
    exact wpAny_pure ⟨W₃, (B₁.turn hcx t).turn hcy t₃, (KeepEnv.kp k₁).trans (t.keepEnv.trans t₃.keepEnv)⟩
theorem ShRep.item {h : Heap} {sh : Shape} {d : D} {v : Value} (r : ShRep h X sh d) (i : sh.is v h) : Item h X v d := by
  cases r with
  | val r => obtain rfl : v = _ := i; exact .rep r
  | int k => obtain ⟨t, rfl⟩ := i; exact .rep (.int _ _)
  | pair ra rb => obtain ⟨T, rfl, ht⟩ := i; exact .pair ht ra rb
theorem ShRep.rep {h : Heap} {sh : Shape} {d : D} {v : Value} (r : ShRep h X sh d) (i : sh.is v h) (hn : ∀ a b, sh ≠ .pair a b) : Rep h X v d := by
  cases r with
  | val r => obtain rfl : v = _ := i; exact r
  | int k => obtain ⟨t, rfl⟩ := i; exact .int _ _
  | pair ra rb => exact absurd rfl (hn _ _)
/-- the tests behind a clause -/
inductive Tests (c : Cfg) (n : Nat) (names : Names) (ρ : Vars) : List Expr → Bool → Prop
  | nil : Tests c n names ρ [] true
  | one {e : Expr} {b : Bool} : Tr c n names none ρ e b → Tests c n names ρ [e] b
theorem Tests.run {ifs : List Expr} {b : Bool} (t : Tests c n names ρ ifs b) (hA : OkA c n A) (hn : env.scope.names = names) (hW : c.Wf s.heap) (W : EnvOK none X s.heap env ρ) :
    wpAny (model c.prog c.w) A (forIn ifs true fun c r => if r = true then do let ok ← isTrue c env (eval c env); pure (ForInStep.yield ok) else pure (ForInStep.yield r)) (fun ok s' => ok = b ∧ Kp s s') E s := by
  cases t with
  | nil => exact wpAny_tests_nil ⟨rfl, .refl _⟩
  | one h => exact wpAny_tests_one (h A env X s E hA hn hW W)
theorem compTurn_last (elt target iter : Expr) (ifs : List Expr) (gens : List Comprehension) (scope : Scope) (pos : Pos) (k : Nat) (it acc : Value) (env : Env) (hg : gens[k]? = some ⟨target, iter, ifs, 0⟩) (hg' : gens[k + 1]? = none) :
    compTurn (.ListComp elt gens scope pos) k it acc env = (do
      standAt iter.pos
      match ← pyNext it with
      | none => pure (.done .next)
      | some v =>
        letOwnedTupleGo target it v
        assign target env v
        let mut ok := true
        for c in ifs do
          if ok then ok ← isTrue c env (eval c env)
        if ok then
          (do let _ ← call (.builtin "list.append") [acc, ← eval elt env])
        again (.compLoop (.ListComp elt gens scope pos) k it acc env)) := by
  unfold compTurn
  simp only [hg, hg']
  rfl
theorem compTurn_more (elt target iter target' iter' : Expr) (ifs ifs' : List Expr) (gens : List Comprehension) (scope : Scope) (pos : Pos) (k : Nat) (it acc : Value) (env : Env) (hg : gens[k]? = some ⟨target, iter, ifs, 0⟩) (hg' : gens[k + 1]? = some ⟨target', iter', ifs', 0⟩) :
    compTurn (.ListComp elt gens scope pos) k it acc env = (do
      standAt iter.pos
      match ← pyNext it with
      | none => pure (.done .next)
      | some v =>
        letOwnedTupleGo target it v
        assign target env v
        let mut ok := true
        for c in ifs do
          if ok then ok ← isTrue c env (eval c env)
        if ok then
          let x ← eval iter' env
          standAt iter'.pos
          let x ← foldedSetIterable iter' env x
          let _ ← runOwn (.compStart (.ListComp elt gens scope pos) (k + 1) (← holding [x] (pyIter x)) acc env) env
        again (.compLoop (.ListComp elt gens scope pos) k it acc env)) := by
  unfold compTurn
  simp only [hg, hg']
  rfl
/-- how a clause leaves the state -/
structure EmPost (X : List Addr) (cl : List Str) (s₀ : Shared) (env : Env) (ρ : Vars) (acc : Addr) (ds : List D) (s s' : Shared) : Prop where
  ok : EnvOK none X s'.heap env ρ
  base : Base cl s₀ env s'
  keep : ∀ b o, b ≠ acc → b ≠ env.locals → (∀ x, env.cells.lookup x ≠ some b) → soft b o = false → s.heap.get? b = some o → s'.heap.get? b = some o
  items : ∃ vs, Plain s'.heap "list" acc vs ∧ Reps s'.heap X vs ds
noncomputable def Em (c : Cfg) (n : Nat) (names : Names) (cl : List Str) (elt : Expr) (gens : List Comprehension) (scope : Scope) (pos : Pos) (k : Nat) (ρ : Vars) (outs : List D) : Prop :=
  ∀ (A : Around) (env : Env) (X : List Addr) (s₀ s : Shared) (E : Value → Shared → Prop) (acc : Addr) (vs : List Value) (ds : List D), OkA c n A → env.scope.names = names → c.Wf s₀.heap → EnvOK none X s.heap env ρ → Base cl s₀ env s → s₀.heap.get? acc = none → acc ∈ X →
    Plain s.heap "list" acc vs → Reps s.heap X vs ds → ds.length + outs.length ≤ lim →
    match gens[k]? with
    | none => wpAny (model c.prog c.w) A (eval elt env) (fun x s₁ => wpAny (model c.prog c.w) A (call (.builtin "list.append") [.ref acc, x]) (fun _ s' => EmPost X cl s₀ env ρ acc (ds ++ outs) s s') E s₁) E s
    | some ⟨_, iter, _, a⟩ => a = 0 ∧ (∀ x, foldedSetIterable iter env x = pure x) ∧ wpAny (model c.prog c.w) A (eval iter env) (fun x s₁ => wpAny (model c.prog c.w) A (pyIter x) (fun it s₂ =>
        codeAny (model c.prog c.w) A (.compStart (.ListComp elt gens scope pos) k it (.ref acc) env) (fun r s' => match r with | .ok _ => EmPost X cl s₀ env ρ acc (ds ++ outs) s s' | .error e => cameBackBy (model c.prog c.w) A env E e s') s₂) E s₁) E s
theorem Kp.alive {s s' : Shared} (k : Kp s s') (a : Alive X s.heap) : Alive X s'.heap := a.keeps k.heap
theorem not_acc_env {h : Heap} {acc : Addr} {vs : List Value} {ρ : Vars} (W : EnvOK o X h env ρ) (p : Plain h "list" acc vs) : acc ≠ env.locals ∧ ∀ x, env.cells.lookup x ≠ some acc := by
  obtain ⟨m, e⟩ := p
  refine ⟨?_, fun x hx => ?_⟩
  · rintro rfl; obtain ⟨m, hm⟩ := W.ns; exact not_seq_of_ns hm e
  · obtain ⟨u, hu⟩ := W.cells _ _ (mem_of_lookup hx); exact not_seq_of_cell hu e
/-- the element -/
theorem Em.elt {elt : Expr} {gens : List Comprehension} {scope : Scope} {pos : Pos} {k : Nat} {d : D} (hk : gens[k]? = none) (h : Ev c n names none ρ elt d) : Em c n names cl elt gens scope pos k ρ [d] := by
  intro A env X s₀ s E acc vs ds hA hn hW W B h0 hX p r hl
  rw [hk]
  refine then_ (h A env X s E hA hn (c.keeps _ _ B.kp.heap hW) W) fun v s₁ g => ?_
  obtain ⟨rv, k₁⟩ := g
  have p₁ := p.keeps k₁.heap
  have W₁ := W.keeps k₁.heap
  have B₁ := B.step k₁
  have r₁ := r.kp k₁
  refine wpAny_list_append_plain (hsz := by rw [List.size_toArray, r.length]; exact lim_sizeLine (by omega)) p₁.plainList fun h' hl' hs' => ?_
  obtain ⟨a1, a2⟩ := not_acc_env W₁ p₁
  have sk : SeqKeep X s₁.heap h' := fun a T us m ha e => by rw [hs'.2 a (by rintro rfl; exact ha hX)]; exact e
  have hp' : Plain h' "list" acc (vs ++ [v]) := by obtain ⟨m, e⟩ := hl'; exact ⟨m, by simpa using e⟩
  refine ⟨?_, ⟨⟨B₁.kp.heap.but fun b o e e' => ?_, B₁.kp.os, B₁.kp.gens⟩, B₁.loc, B₁.cells⟩, fun b o hb _ _ t e => (hs'.2 b hb).trans (k₁.heap.at' b o e t), ⟨_, hp', ?_⟩⟩
  · obtain ⟨m, hm⟩ := W₁.ns
    refine ⟨W₁.kind, W₁.glob, W₁.built, ⟨m, hm.sameBut hs' a1.symm⟩, fun x b hb => ?_, W₁.apart, W₁.has, W₁.lg, W₁.lb, fun x d hx => ?_, ?_⟩
    · obtain ⟨u, hu⟩ := W₁.cells x b hb
      refine ⟨u, hu.sameBut hs' ?_⟩
      rintro rfl; obtain ⟨m, e⟩ := p₁; exact not_seq_of_cell hu e
    · obtain ⟨u, l, q⟩ := W₁.look x d hx
      refine ⟨u, ?_, q.keep sk⟩
      obtain ⟨m', e'⟩ := p₁
      cases l with
      | loc a b c => exact .loc a (b.sameBut hs' (by rintro e; rw [← e] at e'; exact not_seq_of_ns b e')) c
      | cell a b c => exact .cell a b (c.sameBut hs' (by rintro e; rw [← e] at e'; exact not_seq_of_cell c e'))
      | free a b c d => exact .free a b c (d.sameBut hs' (by rintro e; rw [← e] at e'; exact not_seq_of_cell d e'))
      | glob a b c => exact .glob a (b.sameBut hs' (by rintro e; rw [← e] at e'; exact not_seq_of_ns b e')) c
      | built a b c d e => exact .built a (b.sameBut hs' (by rintro e; rw [← e] at e'; exact not_seq_of_ns b e')) c (d.sameBut hs' (by rintro e; rw [← e] at e'; exact not_seq_of_ns d e')) e
    · exact W₁.alive.to (here_sameBut hs' (by obtain ⟨m, e⟩ := hp'; exact ⟨_, e⟩))
  · refine (hs'.2 b ?_).trans e'
    rintro rfl; rw [h0] at e; exact ns_ e
  · have := (r₁.snoc rv).keep sk
    exact this
/-- the frame behind a change of the iterator's own objects -/
theorem EnvOK.iter {wr : List Addr} {h h' : Heap} (W : EnvOK none (wr ++ X) h env ρ) (hm : mainGlobals ∉ wr) (hb : builtinsNs ∉ wr) (hL : env.locals ∉ wr) (hC : ∀ x a, (x, a) ∈ env.cells → a ∉ wr)
    (k : ∀ b o, b ∉ wr → h.get? b = some o → h'.get? b = some o) (Y : List Addr) (hY : ∀ a ∈ Y, a ∈ wr ++ X) (al : Alive Y h') : EnvOK none Y h' env ρ := by
  have sk : SeqKeep (wr ++ X) h h' := fun a T vs m ha e => k a _ (fun q => ha (List.mem_append_left _ q)) e
  obtain ⟨m, hm'⟩ := W.ns
  have at' : ∀ {a : Addr} {m : Str → Option Value}, h.Ns a m → a ∉ wr → h'.Ns a m := fun x hx => x.at' fun o e => k _ o hx e
  have ct : ∀ {a : Addr} {v : Option Value}, h.IsCell a v → a ∉ wr → h'.IsCell a v := fun ⟨o, e, d⟩ hx => ⟨o, k _ o hx e, d⟩
  refine ⟨W.kind, W.glob, W.built, ⟨m, at' hm' hL⟩, fun x a ha => ?_, W.apart, W.has, W.lg, W.lb, fun x d hx => ?_, al⟩
  · obtain ⟨v, hv⟩ := W.cells x a ha; exact ⟨v, ct hv (hC x a ha)⟩
  · obtain ⟨u, l, q⟩ := W.look x d hx
    refine ⟨u, ?_, (q.keep sk).less hY⟩
    cases l with
    | loc a b c => exact .loc a (at' b hL) c
    | cell a b c => exact .cell a b (ct c (hC _ _ (mem_of_lookup b)))
    | free a b c d => exact .free a b c (ct d (hC _ _ (mem_of_lookup c)))
    | glob a b c => exact .glob a (at' b hm) c
    | built a b c d e => exact .built a (at' b hm) c (at' d hb) e
theorem lookup_binds {target : Expr} {d : D} {bs : Vars} (b : Binds names cl target d bs) {x : Str} (hx : x ∉ binder target) : bs.lookup x = none := by
  cases b with
  | name y _ _ => rw [List.lookup_cons, beq_eq_false_iff_ne.mpr (fun e => hx (by rw [e]; exact .head _))]; rfl
  | pair y z => 
    rw [List.lookup_cons, beq_eq_false_iff_ne.mpr (fun e => hx (by rw [e]; exact .tail _ (.head _)))]
    show List.lookup x [(y, _)] = none
    rw [List.lookup_cons, beq_eq_false_iff_ne.mpr (fun e => hx (by rw [e]; exact .head _))]; rfl
theorem lookup_append {bs ρ : Vars} {x : Str} (h : bs.lookup x = none) : (bs ++ ρ).lookup x = ρ.lookup x := by
  induction bs with
  | nil => rfl
  | cons p r ih =>
    obtain ⟨y, d⟩ := p
    rw [List.lookup_cons] at h
    rw [List.cons_append, List.lookup_cons]
    cases hb : x == y with
    | true => rw [hb] at h; exact sn_ h
    | false => rw [hb] at h; exact ih h
noncomputable def gather (keep : D → Bool) (outs : D → List D) (ds : List D) : List D := ds.flatMap fun d => if keep d then outs d else []
theorem gather_take_succ (keep : D → Bool) (outs : D → List D) (src : List D) {i : Nat} {d : D} (h : src[i]? = some d) : gather keep outs (src.take (i + 1)) = gather keep outs (src.take i) ++ (if keep d then outs d else []) := by
  rw [List.take_add_one, h]; simp [gather]
theorem gather_take_le (keep : D → Bool) (outs : D → List D) (src : List D) (i : Nat) : (gather keep outs (src.take i)).length ≤ (gather keep outs src).length := by
  have : gather keep outs src = gather keep outs (src.take i) ++ gather keep outs (src.drop i) := by unfold gather; rw [← List.flatMap_append, List.take_append_drop]
  rw [this, List.length_append]; omega
/-- what stands but for the loop's own places -/
noncomputable def Still (wr : List Addr) (acc : Addr) (env : Env) (h h' : Heap) : Prop := ∀ b o, b ∉ wr → b ≠ acc → b ≠ env.locals → (∀ x, env.cells.lookup x ≠ some b) → soft b o = false → h.get? b = some o → h'.get? b = some o
theorem Still.kp {wr : List Addr} {acc : Addr} {h h' h'' : Heap} (st : Still wr acc env h h') (k : Keep h' h'') : Still wr acc env h h'' := fun b o h1 h2 h3 h4 t e => k.at' b o (st b o h1 h2 h3 h4 t e) t
/-- the state ahead of a turn -/
structure AtTurn (cl : List Str) (s₀ : Shared) (env : Env) (Y wr : List Addr) (acc : Addr) (h : Heap) (ρ : Vars) (items : List D) (s' : Shared) : Prop where
  ok : EnvOK none Y s'.heap env ρ
  base : Base cl s₀ env s'
  still : Still wr acc env h s'.heap
  list : ∃ vs, Plain s'.heap "list" acc vs ∧ Reps s'.heap Y vs items
theorem AtTurn.kp {Y wr : List Addr} {acc : Addr} {h : Heap} {items : List D} {s' s'' : Shared} (a : AtTurn cl s₀ env Y wr acc h ρ items s') (k : Kp s' s'') : AtTurn cl s₀ env Y wr acc h ρ items s'' :=
  ⟨a.ok.keeps k.heap, a.base.step k, a.still.kp k.heap, by obtain ⟨vs, p, r⟩ := a.list; exact ⟨vs, p.keeps k.heap, r.kp k⟩⟩
/-- what holds all along a loop -/
structure LoopOK (c : Cfg) (n : Nat) (A : Around) (target : Expr) (I : Addr) (fp wr : List Addr) (shs : List Shape) (St : Nat → Heap → Prop) (s₀ s : Shared) (env : Env) (X : List Addr) (acc : Addr) (ρ : Vars) (src : List D) : Prop where
  hA : OkA c n A
  hW0 : c.Wf s₀.heap
  T : Turns c A target I fp wr shs St
  fpX : ∀ b ∈ fp, b ∉ X
  fpE : ∀ b ∈ fp, NoEnv s.heap b
  wr0 : ∀ b ∈ wr, s₀.heap.get? b = none
  sh : ShReps s.heap (wr ++ X) shs src
  W : EnvOK none (wr ++ X) s.heap env ρ
  acc0 : s₀.heap.get? acc = none
  accX : acc ∈ X
section
variable {target iter : Expr} {I : Addr} {fp wr : List Addr} {shs : List Shape} {St : Nat → Heap → Prop} {acc : Addr} {src : List D} (L : LoopOK c n A target I fp wr shs St s₀ s env X acc ρ src)
include L
theorem LoopOK.sub (b : Addr) (h : b ∈ wr) : b ∈ fp := by obtain ⟨_, KT⟩ := L.T.ex; exact KT.sub b h
theorem LoopOK.loc : env.locals ∉ fp := fun h => by obtain ⟨_, hm⟩ := L.W.ns; exact (L.fpE _ h).1 _ hm
theorem LoopOK.cell (x : Str) (a : Addr) (ha : (x, a) ∈ env.cells) : a ∉ fp := fun h => by obtain ⟨_, hv⟩ := L.W.cells x a ha; exact (L.fpE _ h).2 _ hv
theorem LoopOK.accF : acc ∉ fp := fun h => L.fpX _ h L.accX
theorem LoopOK.new {b : Addr} {o : Obj} (e : s₀.heap.get? b = some o) : b ∉ wr := fun h => ns_ ((L.wr0 _ h).symm.trans e)
theorem LoopOK.frame {h h' : Heap} {ρ : Vars} (W : EnvOK none (wr ++ X) h env ρ) (k : ∀ b o, b ∉ wr → h.get? b = some o → h'.get? b = some o) (Y : List Addr) (hY : ∀ a ∈ Y, a ∈ wr ++ X) (al : Alive Y h') : EnvOK none Y h' env ρ := by
  obtain ⟨⟨og, eg⟩, ob, eb⟩ := c.gl _ L.hW0
  exact W.iter (L.new eg) (L.new eb) (fun h => L.loc (L.sub _ h)) (fun x a ha h => L.cell x a ha (L.sub _ h)) k Y hY al
theorem LoopOK.base {s' : Shared} {h' : Heap} {tk : Nat} (B : Base cl s₀ env s') (k : ∀ b o, b ∉ wr → s'.heap.get? b = some o → h'.get? b = some o) : Base cl s₀ env { s' with heap := h', toks := tk } :=
  { B with kp := ⟨B.kp.heap.but fun b o e e' => k b o (L.new e) e', B.kp.os, B.kp.gens⟩ }
theorem LoopOK.here {h h' : Heap} {ρ : Vars} (W : EnvOK none (wr ++ X) h env ρ) (k : ∀ b o, b ∉ wr → h.get? b = some o → h'.get? b = some o) : Alive X h' := fun a ha => by
  obtain ⟨o, e⟩ := W.alive a (List.mem_append_right _ ha)
  exact ⟨o, k a o (fun h => L.fpX _ (L.sub _ h) ha) e⟩
theorem LoopOK.seqs {h h' : Heap} {ρ : Vars} (W : EnvOK none (wr ++ X) h env ρ) (k : ∀ b o, b ∉ wr → b ≠ env.locals → (∀ x, env.cells.lookup x ≠ some b) → b ∉ X → soft b o = false → h.get? b = some o → h'.get? b = some o) : SeqKeep (wr ++ X) h h' := fun a T vs m ha e =>
  k a _ (fun q => ha (List.mem_append_left _ q)) (fun q => by obtain ⟨_, hm⟩ := W.ns; exact not_seq_of_ns hm (q ▸ e))
    (fun x q => by obtain ⟨_, hu⟩ := W.cells _ _ (mem_of_lookup q); exact not_seq_of_cell hu e) (fun q => ha (List.mem_append_right _ q)) rfl e
theorem LoopOK.seqStill {h' : Heap} (k : Still wr acc env s.heap h') : SeqKeep (wr ++ X) s.heap h' :=
  L.seqs L.W fun b o h1 h3 h4 h2 t e => k b o h1 (fun q => h2 (q ▸ L.accX)) h3 h4 t e
theorem LoopOK.stEnv {i : Nat} {h h' : Heap} (hst : St i h) (k : ∀ b o, b ≠ acc → b ≠ env.locals → (∀ x, env.cells.lookup x ≠ some b) → soft b o = false → h.get? b = some o → h'.get? b = some o) : St i h' := by
  obtain ⟨_, KT⟩ := L.T.ex
  exact KT.frame _ _ _ hst fun b hb o e => k b o (fun q => L.accF (q ▸ hb)) (fun q => L.loc (q ▸ hb)) (fun x q => L.cell x b (mem_of_lookup q) hb) (L.T.ntab _ _ hst b hb o e) e
/-- the head of a turn -/
theorem LoopOK.head {i : Nat} {s' : Shared} {d : D} {bs : Vars} {items : List D} (hn : env.scope.names = names) (hd : src[i]? = some d) (hst : St i s'.heap) (a : AtTurn cl s₀ env (wr ++ X) wr acc s.heap ρ items s') (hbs : Binds names cl target d bs) (E : Value → Shared → Prop) :
    wpAny (model c.prog c.w) A (pyNext (.ref I)) (fun r s₁ => ∃ v, r = some v ∧ wpAny (model c.prog c.w) A (letOwnedTupleGo target (.ref I) v) (fun _ s₂ => wpAny (model c.prog c.w) A (assign target env v) (fun _ s₄ =>
      AtTurn cl s₀ env (wr ++ X) wr acc s.heap (bs ++ ρ) items s₄ ∧ St (i + 1) s₄.heap) E s₂) E s₁) E s' := by
  obtain ⟨Md, KT⟩ := L.T.ex
  have hlt : i < src.length := (List.getElem?_eq_some_iff.mp hd).1
  have hlt' : i < shs.length := L.sh.1 ▸ hlt
  refine KT.item i s' _ _ hlt' hst fun v h₁ tk₁ hmd hk₁ => ⟨v, rfl, ?_⟩
  refine KT.go i v _ _ _ hmd fun h₂ hP hst₂ hk₂ => ?_
  clear hmd
  obtain ⟨sh, hs, his⟩ := hP
  have kw : ∀ b o, b ∉ wr → s'.heap.get? b = some o → h₂.get? b = some o := fun b o hb e => hk₂ b o hb (hk₁ b o hb e)
  clear hk₁ hk₂
  have al : Alive (wr ++ X) h₂ := fun a' ha => (List.mem_append.mp ha).elim (L.T.live _ _ hst₂ a') (L.here a.ok kw a')
  have k₂ : Still wr acc env s.heap h₂ := fun b o h1 h2 h3 h4 h5 e => kw b o h1 (a.still b o h1 h2 h3 h4 h5 e)
  have sr : ShRep h₂ (wr ++ X) sh d := (L.sh.2 i sh d hs hd).keep (L.seqStill k₂)
  refine then_ (hbs.run (s := { s' with heap := h₂, toks := tk₁ }) L.hA.handled hn (L.frame a.ok kw _ (fun _ h => h) al) (L.base a.base kw) (sr.item his) (fun x px e => sr.rep his (L.T.nm x px e sh (List.mem_of_getElem? hs))) (fun _ _ e => ns_ e)) fun _ s₃ g₃ => ?_
  obtain ⟨vs', p', r'⟩ := a.list
  have na := not_acc_env a.ok p'
  have ke : ∀ b o, b ∉ wr → b ≠ env.locals → (∀ x, env.cells.lookup x ≠ some b) → soft b o = false → s'.heap.get? b = some o → s₃.heap.get? b = some o := fun b o h1 h3 h4 h5 e => g₃.2.2 b o h3 h4 h5 (kw b o h1 e)
  exact ⟨⟨g₃.1, g₃.2.1, fun b o h1 h2 h3 h4 h5 e => g₃.2.2 b o h3 h4 h5 (k₂ b o h1 h2 h3 h4 h5 e), vs', by obtain ⟨m, e⟩ := p'; exact ⟨m, ke acc _ (fun h => L.accF (L.sub _ h)) na.1 na.2 rfl e⟩, r'.keep (L.seqs a.ok fun b o h1 h3 h4 _ t e => ke b o h1 h3 h4 t e)⟩,
    L.stEnv hst₂ fun b o _ h3 h4 t e => g₃.2.2 b o h3 h4 t e⟩
/-- the end of the turns -/
theorem LoopOK.last {s' : Shared} {items : List D} (hst : St src.length s'.heap) (a : AtTurn cl s₀ env (wr ++ X) wr acc s.heap ρ items s') (E : Value → Shared → Prop) :
    wpAny (model c.prog c.w) A (pyNext (.ref I)) (fun r s₁ => r = none ∧ AtTurn cl s₀ env X wr acc s.heap ρ items s₁) E s' := by
  obtain ⟨Md, KT⟩ := L.T.ex
  refine KT.done s' _ _ (L.sh.1 ▸ hst) fun h' tk hk => ⟨rfl, L.frame a.ok hk X (fun _ h => List.mem_append_right _ h) (L.here a.ok hk), L.base a.base hk, fun b o h1 h2 h3 h4 h5 e => hk b o h1 (a.still b o h1 h2 h3 h4 h5 e), ?_⟩
  obtain ⟨vs', ⟨m, e⟩, r'⟩ := a.list
  exact ⟨vs', ⟨m, hk _ _ (fun h => L.accF (L.sub _ h)) e⟩, (r'.keep fun a T vs m ha e => hk a _ (fun q => ha (List.mem_append_left _ q)) e).less fun _ h => List.mem_append_right _ h⟩
end
/-- a turn, whatever stands behind the tests -/
noncomputable def turnOf (target iter : Expr) (ifs : List Expr) (it : Value) (env : Env) (tail : Bool → Sem Fin) : Sem Fin := do
  standAt iter.pos
  match ← pyNext it with
  | none => pure (.done .next)
  | some v =>
    letOwnedTupleGo target it v
    assign target env v
    let mut ok := true
    for c in ifs do
      if ok then ok ← isTrue c env (eval c env)
    tail ok
noncomputable def tailLast (e elt : Expr) (k : Nat) (it acc : Value) (env : Env) (ok : Bool) : Sem Fin := do
  if ok then
    (do let _ ← call (.builtin "list.append") [acc, ← eval elt env])
  again (.compLoop e k it acc env)
noncomputable def tailMore (e iter' : Expr) (k : Nat) (it acc : Value) (env : Env) (ok : Bool) : Sem Fin := do
  if ok then
    let x ← eval iter' env
    standAt iter'.pos
    let x ← foldedSetIterable iter' env x
    let _ ← runOwn (.compStart e (k + 1) (← holding [x] (pyIter x)) acc env) env
  again (.compLoop e k it acc env)
theorem compTurn_of {elt target iter : Expr} {ifs : List Expr} {gens : List Comprehension} (scope : Scope) (pos : Pos) {k : Nat} (it acc : Value) (env : Env) (hg : gens[k]? = some ⟨target, iter, ifs, 0⟩) (hg' : ∀ t' i' f' a, gens[k + 1]? = some ⟨t', i', f', a⟩ → a = 0) :
    compTurn (.ListComp elt gens scope pos) k it acc env = turnOf target iter ifs it env (match gens[k + 1]? with | none => tailLast (.ListComp elt gens scope pos) elt k it acc env | some g => tailMore (.ListComp elt gens scope pos) g.iter k it acc env) := by
  cases hgk : gens[k + 1]? with
  | none => exact compTurn_last _ _ _ _ _ _ _ _ _ _ _ hg hgk
  | some g' =>
    obtain ⟨t', i', f', a'⟩ := g'
    obtain rfl := hg' t' i' f' a' hgk
    exact compTurn_more _ _ _ _ _ _ _ _ _ _ _ _ _ _ hg hgk
/-- behind the tests -/
theorem tail_run {elt : Expr} {gens : List Comprehension} {scope : Scope} {pos : Pos} {k : Nat} {it : Value} {acc : Addr} {outs items : List D} {ok : Bool} {Q : Fin → Shared → Prop} (hA : OkA c n A) (hn : env.scope.names = names) (hW0 : c.Wf s₀.heap) (h0 : s₀.heap.get? acc = none) (hX : acc ∈ X)
    (W : EnvOK none X s.heap env ρ) (B : Base cl s₀ env s) (l : ∃ vs, Plain s.heap "list" acc vs ∧ Reps s.heap X vs items) (hlen : items.length + outs.length ≤ lim) (hem : ok = true → Em c n names cl elt gens scope pos (k + 1) ρ outs)
    (h : ∀ s', (ok = true → EmPost X cl s₀ env ρ acc (items ++ outs) s s') → (ok = false → s' = s) → Q (.again (.compLoop (.ListComp elt gens scope pos) k it (.ref acc) env)) s') :
    wpAny (model c.prog c.w) A ((match gens[k + 1]? with | none => tailLast (.ListComp elt gens scope pos) elt k it (.ref acc) env | some g => tailMore (.ListComp elt gens scope pos) g.iter k it (.ref acc) env) ok) Q (notedBy (model c.prog c.w) A env E) s := by
  cases ok with
  | false =>
    have h := h s (fun e => ft_ e) fun _ => rfl
    cases gens[k + 1]? with
    | none => exact wpAny_pure h
    | some g => exact wpAny_pure h
  | true =>
    obtain ⟨vs, p, r⟩ := l
    have hE := hem rfl A env X s₀ s (notedBy (model c.prog c.w) A env E) acc vs items hA hn hW0 W B h0 hX p r hlen
    have h := fun s' q => h s' (fun _ => q) fun e => tf_ e
    clear hem W B p r hlen
    revert hE
    cases gens[k + 1]? with
    | none => exact fun hE => wpAny_bind (wpAny_bind (then_ hE fun x s₆ h₆ => wpAny_bind (then_ h₆ fun _ s₇ h₇ => wpAny_pure (wpAny_pure (h _ h₇)))))
    | some g =>
      obtain ⟨t', i', f', a'⟩ := g
      intro hE
      refine wpAny_bind (then_ hE.2.2 fun x s₆ h₆ => wpAny_bind (wpAny_standAt (wpAny_bind (wpAny_of_eq (hE.2.1 x) (wpAny_bind (wpAny_holding (then_ h₆ fun it s₇ h₇ => wpAny_bind ?_)))))))
      refine then_ (wpAny_runOwn (h := none) (Q := fun _ s₈ => EmPost X cl s₀ env ρ acc (items ++ outs) s s₈) ?_) fun _ s₈ h₈ => wpAny_pure (h _ h₈)
      have em : ∀ B : Around, B.mark none = B := fun B => by cases B; rfl
      rw [em]
      exact codeAny_mono h₇ fun r s' hr => by cases r <;> exact hr
theorem binds_sub {target : Expr} {d : D} {bs : Vars} {Y : List Addr} {h : Heap} (hbs : Binds names cl target d bs) (hbn : ∀ x ∈ binder target, ρ.lookup x = none) (w : EnvOK none Y h env (bs ++ ρ)) : EnvOK none Y h env ρ := w.sub fun x d e => by
  rw [lookup_append (lookup_binds hbs fun hx => ns_ ((hbn x hx).symm.trans e))]; exact e
theorem gather_room (keep : D → Bool) (outs : D → List D) (src : List D) {i m : Nat} {ds : List D} {d : D} (hd : src[i]? = some d) (h : ds.length + (gather keep outs src).length ≤ m) (hk : keep d = true) : (ds ++ gather keep outs (src.take i)).length + (outs d).length ≤ m := by
  have q := gather_take_le keep outs src (i + 1)
  rw [gather_take_succ keep outs src hd, List.length_append, if_pos hk] at q
  rw [List.length_append, Nat.add_assoc]
  exact Nat.le_trans (Nat.add_le_add_left q _) h
/-- the loop of a clause -/
theorem comp_loop {elt target iter : Expr} {ifs : List Expr} {gens : List Comprehension} {scope : Scope} {pos : Pos} {k : Nat} {I : Addr} {fp wr : List Addr} {shs : List Shape} {St : Nat → Heap → Prop} {src : List D} {keep : D → Bool} {outs : D → List D}
    {acc : Addr} {vs : List Value} {ds : List D} {R : Result → Shared → Prop}
    (hg : gens[k]? = some ⟨target, iter, ifs, 0⟩) (hg' : ∀ t' i' f' a, gens[k + 1]? = some ⟨t', i', f', a⟩ → a = 0) (hA : OkA c n A) (hn : env.scope.names = names) (hW0 : c.Wf s₀.heap) (T : Turns c A target I fp wr shs St) (hst : St 0 s.heap) (hfpX : ∀ b ∈ fp, b ∉ X) (hfpE : ∀ b ∈ fp, NoEnv s.heap b) (hwr : ∀ b ∈ wr, s₀.heap.get? b = none)
    (hsh : ShReps s.heap (wr ++ X) shs src) (W : EnvOK none (wr ++ X) s.heap env ρ) (B : Base cl s₀ env s) (h0 : s₀.heap.get? acc = none) (hX : acc ∈ X) (p : Plain s.heap "list" acc vs) (r : Reps s.heap (wr ++ X) vs ds)
    (hlen : ds.length + (gather keep outs src).length ≤ lim) (hbn : ∀ x ∈ binder target, ρ.lookup x = none)
    (turn : ∀ d ∈ src, ∃ bs, Binds names cl target d bs ∧ Tests c n names (bs ++ ρ) ifs (keep d) ∧ (keep d = true → Em c n names cl elt gens scope pos (k + 1) (bs ++ ρ) (outs d)))
    (hR : ∀ s', AtTurn cl s₀ env X wr acc s.heap ρ (ds ++ gather keep outs src) s' → R (.ok .next) s') :
    codeAny (model c.prog c.w) A (.compLoop (.ListComp elt gens scope pos) k (.ref I) (.ref acc) env) R s := by
  have L : LoopOK c n A target I fp wr shs St s₀ s env X acc ρ src := ⟨hA, hW0, T, hfpX, hfpE, hwr, hsh, W, h0, hX⟩
  have a : AtTurn cl s₀ env (wr ++ X) wr acc s.heap ρ (ds ++ gather keep outs (src.take 0)) s := ⟨W, B, fun _ _ _ _ _ _ _ e => e, vs, p, by rw [show gather keep outs (src.take 0) = [] from rfl, List.append_nil]; exact r⟩
  clear W B p r hfpX hfpE hwr hsh T
  refine codeAny_loop rfl (fun m s' => ∃ i, i ≤ src.length ∧ m + i = src.length + 1 ∧ St i s'.heap ∧ AtTurn cl s₀ env (wr ++ X) wr acc s.heap ρ (ds ++ gather keep outs (src.take i)) s') (fun m s' hI => ?_) (src.length + 1) ⟨0, Nat.zero_le _, rfl, hst, a⟩
  clear a hst
  obtain ⟨i, hi, hmi, hst', a⟩ := hI
  show wpAny _ _ ((compTurn (.ListComp elt gens scope pos) k (.ref I) (.ref acc) env).onRaise (fun x => do noteFrame x env; theTreesLotGoes x)) _ _ s'
  refine wpAny_noted ?_
  rw [compTurn_of _ _ _ _ _ hg hg']
  refine wpAny_bind (wpAny_standAt (wpAny_bind ?_))
  by_cases hlt : i < src.length
  · -- a turn
    have hd : src[i]? = some src[i] := List.getElem?_eq_getElem hlt
    obtain ⟨bs, hbs, hts, hem⟩ := turn _ (List.getElem_mem hlt)
    revert hd hts hem hbs
    generalize src[i] = d
    intro hd hbs hts hem
    refine then_ (L.head hn hd hst' a hbs _) fun rr s₁ hh => ?_
    obtain ⟨v, rfl, hh⟩ := hh
    refine wpAny_bind (then_ hh fun _ s₂ hh => wpAny_bind (then_ hh fun _ s₄ hh => ?_))
    clear a hst'
    obtain ⟨a, st⟩ := hh
    refine wpAny_bind (then_ (hts.run hA hn (c.keeps _ _ a.base.kp.heap hW0) a.ok) fun ok s₅ hok => ?_)
    obtain ⟨rfl, kp⟩ := hok
    have a := a.kp kp
    have st := L.stEnv (h' := s₅.heap) st fun b o _ _ _ t e => kp.heap.at' b o e t
    clear kp hh
    have hsucc : ds ++ gather keep outs (src.take (i + 1)) = (ds ++ gather keep outs (src.take i)) ++ (if keep d then outs d else []) := by rw [gather_take_succ keep outs src hd, List.append_assoc]
    by_cases hkd : keep d = true
    · refine tail_run (outs := outs d) hA hn hW0 h0 (List.mem_append_right _ hX) a.ok a.base a.list (gather_room keep outs src hd hlen hkd) hem fun s₆ P _ => ⟨rfl, src.length - i, ?_, i + 1, hlt, ?_, ?_⟩
      · exact Nat.sub_lt_left_of_lt_add hi (by rw [Nat.add_comm, hmi]; exact Nat.lt_succ_self _)
      · rw [← Nat.add_assoc, Nat.sub_add_cancel hi]
      · have P := P hkd
        rw [hsucc, if_pos hkd]
        exact ⟨L.stEnv st P.keep, binds_sub hbs hbn P.ok, P.base, fun b o h1 h2 h3 h4 h5 e => P.keep b o h2 h3 h4 h5 (a.still b o h1 h2 h3 h4 h5 e), P.items⟩
    · refine tail_run (outs := []) hA hn hW0 h0 (List.mem_append_right _ hX) a.ok a.base a.list (Nat.le_trans (Nat.le_of_eq (Nat.add_zero _)) (by rw [List.length_append]; exact Nat.le_trans (Nat.add_le_add_left (gather_take_le keep outs src i) _) hlen)) (fun e => absurd e hkd) fun s₆ _ P => ⟨rfl, src.length - i, ?_, i + 1, hlt, ?_, ?_⟩
      · exact Nat.sub_lt_left_of_lt_add hi (by rw [Nat.add_comm, hmi]; exact Nat.lt_succ_self _)
      · rw [← Nat.add_assoc, Nat.sub_add_cancel hi]
      · rw [P (Bool.eq_false_iff.mpr hkd), hsucc, if_neg hkd, List.append_nil]
        exact ⟨st, binds_sub hbs hbn a.ok, a.base, a.still, a.list⟩
  · -- the end
    have hi := Nat.le_antisymm hi (Nat.le_of_not_lt hlt)
    subst hi
    refine then_ (L.last hst' a _) fun rr s₁ hh => ?_
    obtain ⟨rfl, hh⟩ := hh
    rw [List.take_length] at hh
    exact wpAny_pure (hR _ hh)
end
end
section
open PySem PySem.W PyProof.Rows
variable [Lo]
section
variable {c : Cfg} {n : Nat} {names : Names} {o : Own} {ρ : Vars} {cl : List Str} {A : Around} {E : Value → Shared → Prop} {s s₀ : Shared} {env : Env} {X : List Addr}
theorem compStart_any {elt target iter : Expr} {ifs : List Expr} {gens : List Comprehension} {scope : Scope} {pos : Pos} {k : Nat} {it acc : Value} {R : Result → Shared → Prop} (hg : gens[k]? = some ⟨target, iter, ifs, 0⟩)
    (h0 : codeAny (model c.prog c.w) A (.compLoop (.ListComp elt gens scope pos) k it acc env) R s)
    (h : wpAny (model c.prog c.w) A (pyIter it) (fun it' s' => codeAny (model c.prog c.w) A (.compLoop (.ListComp elt gens scope pos) k it' acc env) R s') (notedBy (model c.prog c.w) A env fun x s' => R (.error x) s') s) :
    codeAny (model c.prog c.w) A (.compStart (.ListComp elt gens scope pos) k it acc env) R s := by
  refine codeAny_of_tree ?_
  show wpAny _ _ ((compStart (.ListComp elt gens scope pos) k it acc env).onRaise (fun x => do noteFrame x env; standAt theWindowsPlace)) _ _ s
  refine wpAny_notedAt ?_
  unfold compStart
  have hc : (clausesOf (.ListComp elt gens scope pos))[k]? = some ⟨target, iter, ifs, 0⟩ := hg
  rw [hc]
  show wpAny _ _ (ask >>= _) _ _ s
  refine wpAny_bind (wpAny_askSetting (wpAny_ite ?_))
  split
  · first
      | exact wpAny_bind (wpAny_pure (wpAny_pure (And.intro rfl h0)))
      | exact wpAny_pure (And.intro rfl h0)
  · first
      | exact wpAny_bind (wpAny_rule (wpAny_bind (wpAny_standAt (wpAny_bind (wpAny_mono h (fun it' s' h' => wpAny_pure (And.intro rfl h')) fun _ _ x => x)))))
      | (refine wpAny_bind (wpAny_rule ?_); show wpAny _ _ (standAt iter.pos >>= _) _ _ s; exact wpAny_bind (wpAny_standAt (wpAny_bind (wpAny_mono h (fun it' s' h' => wpAny_pure (And.intro rfl h')) fun _ _ x => x))))
/-- a clause within -/
theorem Em.clause {elt target iter : Expr} {ifs : List Expr} {gens : List Comprehension} {scope : Scope} {pos : Pos} {k : Nat} {src : List D} {keep : D → Bool} {outs : D → List D}
    (hg : gens[k]? = some ⟨target, iter, ifs, 0⟩) (hg' : ∀ t' i' f' a, gens[k + 1]? = some ⟨t', i', f', a⟩ → a = 0) (hsrc : Src c n names none ρ target iter src) (hbn : ∀ x ∈ binder target, ρ.lookup x = none)
    (turn : ∀ d ∈ src, ∃ bs, Binds names cl target d bs ∧ Tests c n names (bs ++ ρ) ifs (keep d) ∧ (keep d = true → Em c n names cl elt gens scope pos (k + 1) (bs ++ ρ) (outs d))) :
    Em c n names cl elt gens scope pos k ρ (gather keep outs src) := by
  intro A env X s₀ s E acc vs ds hA hn hW0 W B h0 hX p r hl
  rw [hg]
  refine ⟨rfl, hsrc.1 env, hsrc.2 A env X s E _ hA hn (c.keeps _ _ B.kp.heap hW0) W fun I fp wr shs St s₂ kp T hst hwr hfpX hfpE hsh => ?_⟩
  have hwr0 : ∀ b ∈ wr, s₀.heap.get? b = none := fun b hb => by
    cases e : s₀.heap.get? b with
    | none => rfl
    | some o => obtain ⟨_, this⟩ := B.kp.heap.here e; rw [hwr b hb] at this; exact ns_ this
  have more : ∀ {v d}, Rep s.heap X v d → Rep s₂.heap (wr ++ X) v d := fun q => q.more kp.heap fun a ha => by
    rcases List.mem_append.mp ha with h | h
    · exact .inr (hwr a h)
    · exact .inl h
  have more' : Reps s₂.heap (wr ++ X) vs ds := r.more kp.heap fun a ha => by
    rcases List.mem_append.mp ha with h | h
    · exact .inr (hwr a h)
    · exact .inl h
  have al : Alive (wr ++ X) s₂.heap := fun a ha => by
    rcases List.mem_append.mp ha with h | h
    · exact T.live _ _ hst a h
    · exact W.alive.keeps kp.heap a h
  have W₂ : EnvOK none (wr ++ X) s₂.heap env ρ :=
    let w := W.keeps kp.heap
    ⟨w.kind, w.glob, w.built, w.ns, w.cells, w.apart, w.has, w.lg, w.lb, fun x d e => by obtain ⟨v, l, q⟩ := W.look x d e; exact ⟨v, l.keeps kp.heap, more q⟩, al⟩
  have loop : codeAny (model c.prog c.w) A (.compLoop (.ListComp elt gens scope pos) k (.ref I) (.ref acc) env) (fun r s' => match r with | .ok _ => EmPost X cl s₀ env ρ acc (ds ++ gather keep outs src) s s' | .error e => cameBackBy (model c.prog c.w) A env E e s') s₂ :=
    comp_loop hg hg' hA hn hW0 T hst hfpX (fun b hb => (hfpE b hb).2) hwr0 hsh W₂ (B.step kp) h0 hX (p.keeps kp.heap) more' hl hbn turn fun s' q =>
      ⟨q.ok, q.base, fun b' o h1 h2 h3 t e => q.still b' o (fun h => ns_ ((hwr b' h).symm.trans e)) h1 h2 h3 t (kp.heap.at' b' o e t), q.list⟩
  exact compStart_any hg loop (T.self 0 s₂ _ _ hst loop)
/-- the names that a comprehension's own scope sees -/
noncomputable def relabelN (outer : Names) (inner : Names) : Names := inner.map fun p => if p.2 == NameKind.free && outer.lookup p.1 == some .cell then (p.1, .cell) else (p.1, p.2)
/-- what a scope's free names must be outside -/
noncomputable def freeOK (outer inner : Names) : Bool := inner.all fun p => p.2 != NameKind.free || ((outer.lookup p.1 == some .cell || outer.lookup p.1 == some .free) && inner.lookup p.1 == some .free && p.1 != ("__classdict__" : Str))
noncomputable def frees (inner : Names) : List Str := (inner.filter fun p => p.2 == NameKind.free).map (·.1)
theorem closure_run {scope : Scope} {env : Env} (h : ∀ p ∈ scope.names, p.2 = NameKind.free → ∃ a, env.cells.lookup p.1 = some a) :
    ∃ cl, closureFor scope env = pure cl ∧ (∀ x a, (x, a) ∈ cl → env.cells.lookup x = some a ∧ (x, NameKind.free) ∈ scope.names) ∧ (∀ x, (x, NameKind.free) ∈ scope.names → ∃ a, cl.lookup x = some a) ∧ cl.map (·.1) = (frees scope.names).reverse := by
  have key : ∀ (l : Names) (acc : List (Str × Addr)), (∀ p ∈ l, p.2 = NameKind.free → ∃ a, env.cells.lookup p.1 = some a) →
      ∃ cl, (forIn l acc fun (x : Str × NameKind) cs => if x.2 == NameKind.free then (do let a ← cellOf env x.1; pure (ForInStep.yield ((x.1, a) :: cs))) else pure (ForInStep.yield cs) : Sem _) = pure cl ∧
        (∀ x a, (x, a) ∈ cl → (x, a) ∈ acc ∨ (env.cells.lookup x = some a ∧ (x, NameKind.free) ∈ l)) ∧ (∀ x, ((x, NameKind.free) ∈ l ∨ ∃ a, acc.lookup x = some a) → ∃ a, cl.lookup x = some a) ∧ cl.map (·.1) = (frees l).reverse ++ acc.map (·.1) := by
    intro l
    induction l with
    | nil => intro acc _; exact ⟨acc, rfl, fun x a h => .inl h, fun x h => h.resolve_left (by simp), by simp [frees]⟩
    | cons p r ih =>
      intro acc hp
      obtain ⟨x, k⟩ := p
      have hr : ∀ p ∈ r, p.2 = NameKind.free → ∃ a, env.cells.lookup p.1 = some a := fun p hm => hp p (.tail _ hm)
      by_cases hk : k = NameKind.free
      · subst hk
        obtain ⟨a, ha⟩ := hp (x, .free) (.head _) rfl
        obtain ⟨cl, h1, h2, h3, h4⟩ := ih ((x, a) :: acc) hr
        refine ⟨cl, ?_, fun y b hm => ?_, fun y hy => ?_, by rw [h4]; simp [frees, List.filter_cons]⟩
        · rw [List.forIn_cons]
          simp only [beq_self_eq_true, if_true]
          unfold cellOf
          rw [ha]
          exact h1
        · rcases h2 y b hm with q | q
          · rcases List.mem_cons.mp q with q | q
            · cases q; exact .inr ⟨ha, .head _⟩
            · exact .inl q
          · exact .inr ⟨q.1, .tail _ q.2⟩
        · refine h3 y ?_
          rcases hy with q | ⟨b, q⟩
          · rcases List.mem_cons.mp q with q | q
            · cases q; exact .inr ⟨a, by rw [List.lookup_cons]; simp⟩
            · exact .inl q
          · refine .inr ?_
            rw [List.lookup_cons]
            cases hb : y == x with
            | true => exact ⟨a, rfl⟩
            | false => exact ⟨b, q⟩
      · have hb : (k == NameKind.free) = false := by simpa using hk
        obtain ⟨cl, h1, h2, h3, h4⟩ := ih acc hr
        refine ⟨cl, ?_, fun y b hm => (h2 y b hm).imp id fun q => ⟨q.1, .tail _ q.2⟩, fun y hy => h3 y ?_, by rw [h4]; simp [frees, List.filter_cons, hb]⟩
        · rw [List.forIn_cons]
          simp only [hb, Bool.false_eq_true, if_false]
          exact h1
        · rcases hy with q | q
          · rcases List.mem_cons.mp q with q | q
            · cases q; exact absurd rfl hk
            · exact .inl q
          · exact .inr q
  obtain ⟨cl, h1, h2, h3, h4⟩ := key scope.names [] h
  refine ⟨cl, ?_, fun x a hm => (h2 x a hm).resolve_left (by simp), fun x hx => h3 x (.inl hx), by simpa using h4⟩
  have e : closureFor scope env = ((forIn scope.names ([] : List (Str × Addr)) fun (x : Str × NameKind) cs => if x.2 == NameKind.free then (do let a ← cellOf env x.1; pure (ForInStep.yield ((x.1, a) :: cs))) else pure (ForInStep.yield cs) : Sem _) >>= fun r => pure r) := rfl
  rw [e, h1]; rfl
theorem relabel_names (scope : Scope) {env : Env} (hk : env.scope.kind = .function) : (relabel scope env).names = relabelN env.scope.names scope.names := by
  unfold relabel relabelN
  simp only [hk]
  apply List.map_congr_left
  intro p _
  simp only [Env.kindOf, beq_self_eq_true, Bool.and_true]
theorem relabelN_lookup (outer : Names) : ∀ (inner : Names) (x : Str), (relabelN outer inner).lookup x = (inner.lookup x).map fun k => if k == NameKind.free && outer.lookup x == some .cell then .cell else k
  | [], _ => rfl
  | (y, k) :: r, x => by
    have ih := relabelN_lookup outer r x
    unfold relabelN at ih ⊢
    rw [List.map_cons, List.lookup_cons]
    cases hb : x == y with
    | true =>
      have e := beq_iff_eq.mp hb
      subst e
      have e1 : (x == (if (k == NameKind.free && outer.lookup x == some .cell) = true then (x, NameKind.cell) else (x, k)).1) = true := by split <;> simp
      rw [List.lookup_cons, e1, hb]
      by_cases hc : (k == NameKind.free && outer.lookup x == some NameKind.cell) = true
      · rw [if_pos hc, Option.map_some, if_pos hc]
      · rw [if_neg hc, Option.map_some, if_neg hc]
    | false =>
      have e1 : (x == (if (k == NameKind.free && outer.lookup y == some .cell) = true then (y, NameKind.cell) else (y, k)).1) = false := by split <;> exact hb
      rw [List.lookup_cons, e1, hb]; exact ih
/-- the data that a scope within sees -/
noncomputable def capt (ρ : Vars) (inner : Names) : Vars := ρ.filter fun p => inner.lookup p.1 == some .free
theorem capt_lookup (inner : Names) : ∀ (ρ : Vars) (x : Str) (d : D), (capt ρ inner).lookup x = some d → ρ.lookup x = some d ∧ inner.lookup x = some .free
  | [], x, d, h => by cases h
  | (y, e) :: r, x, d, h => by
    unfold capt at h
    rw [List.filter_cons] at h
    rw [List.lookup_cons]
    cases hb : x == y with
    | true =>
      have e' := beq_iff_eq.mp hb
      subst e'
      by_cases hc : inner.lookup x = some .free
      · simp only [hc, beq_self_eq_true, if_true, List.lookup_cons] at h
        exact ⟨h, hc⟩
      · rw [if_neg (by simpa using hc)] at h
        exact absurd (capt_lookup inner r x d h).2 hc
    | false =>
      split at h
      · rw [List.lookup_cons, hb] at h; exact capt_lookup inner r x d h
      · exact capt_lookup inner r x d h
noncomputable def noTwice (names : List Str) : Bool := decide names.Nodup
noncomputable def compOK (outer : Names) (scope : Scope) : Bool := freeOK outer scope.names && uniqNames scope.names && (scope.kind == .function) && noTwice (frees scope.names)
theorem freeOK_at {outer inner : Names} (h : freeOK outer inner = true) {x : Str} (hx : (x, NameKind.free) ∈ inner) : (outer.lookup x = some .cell ∨ outer.lookup x = some .free) ∧ inner.lookup x = some .free ∧ (x == ("__classdict__" : Str)) = false := by
  have := List.all_eq_true.mp h _ hx
  simp only [bne_self_eq_false, Bool.false_or, Bool.and_eq_true, Bool.or_eq_true, beq_iff_eq, bne_iff_ne, ne_eq] at this
  exact ⟨this.1.1, this.1.2, beq_eq_false_iff_ne.mpr this.2⟩
theorem uniq_at {inner : Names} (h : uniqNames inner = true) {x : Str} {k : NameKind} (hx : (x, k) ∈ inner) : inner.lookup x = some k := by
  have := List.all_eq_true.mp h _ hx
  simpa using this
/-- the closure of a scope within: its cells -/
theorem closure_ok {scope : Scope} (hs : compOK names scope = true) (hn : env.scope.names = names) (W : EnvOK o X s.heap env ρ) :
    ∃ cl, closureFor scope env = pure cl ∧ (∀ x a, (x, a) ∈ cl → (∃ v, s.heap.IsCell a v) ∧ scope.names.lookup x = some .free ∧ env.cells.lookup x = some a) ∧ cl.Pairwise (fun x y => x.2 ≠ y.2) ∧ (∀ x, scope.names.lookup x = some .free → ∃ a, cl.lookup x = some a) ∧ (∀ x ∈ cl.map (·.1), x ∈ frees scope.names) := by
  obtain ⟨⟨⟨hf, hu⟩, hk⟩, hd⟩ : ((freeOK names scope.names = true ∧ uniqNames scope.names = true) ∧ scope.kind = .function) ∧ (frees scope.names).Nodup := by simpa [compOK, noTwice] using hs
  obtain ⟨cl, h1, h2, h3, h4⟩ := closure_run (scope := scope) (env := env) fun p hp hk => by
    obtain ⟨x, k⟩ := p
    obtain rfl : k = .free := hk
    refine W.has x ?_
    unfold Env.kindOf; rw [hn]
    exact (freeOK_at hf hp).1
  refine ⟨cl, h1, fun x a hm => ?_, ?_, fun x hx => h3 x (mem_of_lookup hx), fun x hx => ?_⟩
  · obtain ⟨e1, e2⟩ := h2 x a hm
    exact ⟨W.cells x a (mem_of_lookup e1), (freeOK_at hf e2).2.1, e1⟩
  · -- the closure's cells are apart as the names are
    have nd : (cl.map (·.1)).Nodup := by rw [h4]; unfold List.Nodup at *; rw [List.pairwise_reverse]; exact hd.imp fun h => Ne.symm h
    have key : ∀ l : List (Str × Addr), (∀ p ∈ l, p ∈ cl) → (l.map (·.1)).Nodup → l.Pairwise fun x y => x.2 ≠ y.2 := by
      intro l
      induction l with
      | nil => intro _ _; exact .nil
      | cons p r ih =>
        intro hm hn
        rw [List.map_cons, List.nodup_cons] at hn
        refine List.pairwise_cons.mpr ⟨fun q hq e => hn.1 ?_, ih (fun q hq => hm q (.tail _ hq)) hn.2⟩
        obtain ⟨x, a⟩ := p
        obtain ⟨y, b⟩ := q
        obtain rfl : a = b := e
        have e1 := (h2 x a (hm _ (.head _))).1
        have e2 := (h2 y a (hm _ (.tail _ hq))).1
        rw [name_of_addr W.apart (mem_of_lookup e1) (mem_of_lookup e2)]
        exact List.mem_map_of_mem (f := (·.1)) hq
    exact key cl (fun _ h => h) nd
  · obtain ⟨⟨y, a⟩, hm, rfl⟩ := List.mem_map.mp hx
    exact List.mem_map.mpr ⟨_, List.mem_filter.mpr ⟨(h2 y a hm).2, rfl⟩, rfl⟩
theorem lookup_of_mem_nodup {α : Type} : ∀ {l : List (Str × α)} {x : Str} {a : α}, l.lookup x = some a → (x, a) ∈ l := mem_of_lookup
/-- the comprehension's own frame -/
theorem comp_frame {scope : Scope} {cl : List (Str × Addr)} {X' : List Addr} {s₃ s₄ : Shared} {cenv : Env} (hs : compOK names scope = true) (hn : env.scope.names = names) (W : EnvOK none X s.heap env ρ)
    (hcl : ∀ x a, (x, a) ∈ cl → (∃ v, s.heap.IsCell a v) ∧ scope.names.lookup x = some .free ∧ env.cells.lookup x = some a) (hfr : ∀ x, scope.names.lookup x = some .free → ∃ a, cl.lookup x = some a) (hclf : ∀ x ∈ cl.map (·.1), x ∈ frees scope.names)
    (k₃ : Kp s s₃) (e1 : cenv.scope = scope) (e3 : cenv.cells = ownCells scope s₃ cl) (W' : EnvOK none X' s₄.heap cenv []) (B : Base (cl.map (·.1)) s₃ cenv s₄) (hX : ∀ a ∈ X', a ∈ X ∨ s.heap.get? a = none) :
    EnvOK none X' s₄.heap { cenv with scope := relabel scope env } (capt ρ scope.names) ∧ Base (frees scope.names) s { cenv with scope := relabel scope env } s₄ := by
  obtain ⟨⟨⟨hf, hu⟩, hk⟩, hd⟩ : ((freeOK names scope.names = true ∧ uniqNames scope.names = true) ∧ scope.kind = .function) ∧ (frees scope.names).Nodup := by simpa [compOK, noTwice] using hs
  have hrn : (relabel scope env).names = relabelN names scope.names := by rw [relabel_names scope W.kind, hn]
  have k₄ : Kp s s₄ := k₃.trans B.kp
  have none_of : ∀ a, s₃.heap.get? a = none → s.heap.get? a = none := fun a e => by
    cases q : s.heap.get? a with
    | none => rfl
    | some o => obtain ⟨_, this⟩ := k₃.heap.here q; rw [e] at this; exact ns_ this
  refine ⟨⟨?_, W'.glob, W'.built, W'.ns, W'.cells, W'.apart, fun x hx => ?_, W'.lg, W'.lb, fun x d hx => ?_, W'.own⟩, ⟨k₄, none_of _ B.loc, fun x a hx => ?_⟩⟩
  · show (relabel scope env).kind = _; exact hk
  · refine W'.has x ?_
    have hx' : (relabelN names scope.names).lookup x = some .cell ∨ (relabelN names scope.names).lookup x = some .free := by rw [← hrn]; exact hx
    rw [relabelN_lookup] at hx'
    unfold Env.kindOf; rw [e1]
    cases q : scope.names.lookup x with
    | none => rw [q] at hx'; simp at hx'
    | some k =>
      rw [q] at hx'
      simp only [Option.map_some, Option.some.injEq] at hx'
      by_cases hc : (k == NameKind.free && names.lookup x == some .cell) = true
      · right
        simp only [Bool.and_eq_true, beq_iff_eq] at hc
        rw [hc.1]
      · rw [if_neg hc] at hx'
        rcases hx' with h | h <;> simp [h]
  · obtain ⟨hρ, hfree⟩ := capt_lookup scope.names ρ x d hx
    obtain ⟨v, l, q⟩ := W.look x d hρ
    obtain ⟨hout, _, hcd⟩ := freeOK_at hf (mem_of_lookup hfree)
    obtain ⟨a, ha⟩ := hfr x hfree
    have hcell : env.cells.lookup x = some a := (hcl x a (mem_of_lookup ha)).2.2
    have hv : s.heap.IsCell a (some v) := by
      cases l with
      | loc h1 _ _ => unfold Env.kindOf at h1; rw [hn] at h1; rw [h1] at hout; rcases hout with h | h <;> cases h
      | cell _ h2 h3 => rw [hcell] at h2; cases h2; exact h3
      | free _ _ h2 h3 => rw [hcell] at h2; cases h2; exact h3
      | glob h1 _ _ => unfold Env.kindOf at h1; rw [hn] at h1; rw [h1] at hout; rcases hout with h | h <;> cases h
      | built h1 _ _ _ _ => unfold Env.kindOf at h1; rw [hn] at h1; rw [h1] at hout; rcases hout with h | h <;> cases h
    have hncell : (x, NameKind.cell) ∉ scope.names := fun hm => by have := uniq_at hu hm; rw [hfree] at this; cases this
    have hc' : cenv.cells.lookup x = some a := by rw [e3]; exact cellsFrom_old _ _ _ _ _ ha hncell
    have hkind : Env.kindOf { cenv with scope := relabel scope env } x = some (if names.lookup x == some .cell then .cell else .free) := by
      show (relabel scope env).names.lookup x = _
      rw [hrn, relabelN_lookup, hfree]
      simp only [Option.map_some, beq_self_eq_true, Bool.true_and]
    refine ⟨v, ?_, q.more k₄.heap hX⟩
    by_cases hc : names.lookup x = some .cell
    · exact .cell (by rw [hkind, hc]; rfl) hc' (k₄.heap.cell hv)
    · refine .free ?_ hcd hc' (k₄.heap.cell hv)
      rw [hkind, if_neg (by simpa using hc)]
  · rcases B.cells x a hx with h | h
    · exact .inl (hclf x h)
    · exact .inr (none_of a h)
/-- the whole walk of a comprehension, up to its end -/
theorem comp_core {elt target iter : Expr} {ifs : List Expr} {rest : List Comprehension} {scope : Scope} {pos : Pos} {src : List D} {keep : D → Bool} {outs : D → List D} {R : Value → Addr → Result → Shared → Prop} {cl : List (Str × Addr)}
    (hs : compOK names scope = true) (hg' : ∀ t' i' f' a, rest[0]? = some ⟨t', i', f', a⟩ → a = 0) (hsrc : Src c n names none ρ target iter src) (hbn : ∀ x ∈ binder target, scope.names.lookup x ≠ some .free)
    (hlen : (gather keep outs src).length ≤ lim)
    (turn : ∀ d ∈ src, ∃ bs, Binds (relabelN names scope.names) (frees scope.names) target d bs ∧ Tests c n (relabelN names scope.names) (bs ++ capt ρ scope.names) ifs (keep d) ∧
      (keep d = true → Em c n (relabelN names scope.names) (frees scope.names) elt (⟨target, iter, ifs, 0⟩ :: rest) scope pos 1 (bs ++ capt ρ scope.names) (outs d)))
    (hA : OkA c n A) (hn : env.scope.names = names) (hW : c.Wf s.heap) (W : EnvOK none X s.heap env ρ)
    (hcl : ∀ x a, (x, a) ∈ cl → (∃ v, s.heap.IsCell a v) ∧ scope.names.lookup x = some .free ∧ env.cells.lookup x = some a) (hap : cl.Pairwise (fun x y => x.2 ≠ y.2)) (hfr : ∀ x, scope.names.lookup x = some .free → ∃ a, cl.lookup x = some a) (hclf : ∀ x ∈ cl.map (·.1), x ∈ frees scope.names)
    (hR : ∀ (D C : Addr) (m : Str → Option Value) s', s'.heap.Ns C m → s.heap.get? C = none → D ≠ C → (∀ h', Heap.SameBut C s'.heap h' → Good X (.list (gather keep outs src)) s (.ref D) { s' with heap := h' }) → R (.ref D) C (.ok .next) s') :
    wpAny (model c.prog c.w) A (eval iter env) (fun x s₁ => wpAny (model c.prog c.w) A (pyIter x) (fun it s₂ => wpAny (model c.prog c.w) A (newList []) (fun acc s₃ =>
      wpAny (model c.prog c.w) A (newFunctionEnv scope env.globals cl [] env.qual none .none (some env)) (fun cenv s₄ =>
        codeAny (model c.prog c.w) A (.compStart (.ListComp elt (⟨target, iter, ifs, 0⟩ :: rest) scope pos) 0 it acc { cenv with scope := relabel scope env }) (R acc cenv.locals) s₄) E s₃) E s₂) E s₁) E s := by
  obtain ⟨⟨⟨hf, hu⟩, hk⟩, hd⟩ : ((freeOK names scope.names = true ∧ uniqNames scope.names = true) ∧ scope.kind = .function) ∧ (frees scope.names).Nodup := by simpa [compOK, noTwice] using hs
  refine hsrc.2 A env X s E _ hA hn hW W fun I fp wr shs St s₂ kp T hst hwr hfpX hfpE hsh => ?_
  refine wpAny_newObj_type ?_
  have k₃ : Kp s₂ { s₂ with heap := s₂.heap.push { cls := .type "list", dict := none, data := .seq ([] : List Value).toArray } } := ⟨.of fun _ _ e => Heap.get?_push_of_some _ e, rfl, fun x => x⟩
  have k03 := kp.trans k₃
  generalize hs₃ : ({ s₂ with heap := s₂.heap.push { cls := .type "list", dict := none, data := .seq ([] : List Value).toArray } } : Shared) = s₃ at k₃ k03
  have hacc3 : s₃.heap.get? s₂.heap.objs.size = some { cls := .type "list", dict := none, data := .seq ([] : List Value).toArray } := by rw [← hs₃]; exact Heap.get?_push_size _ rfl
  have fresh : ∀ a, s₂.heap.objs.size ≤ a → s.heap.get? a = none := fun a ha => by
    cases e : s.heap.get? a with
    | none => rfl
    | some o' => exact absurd (kp.heap.lt e) (Nat.not_lt.mpr ha)
  rw [W.glob]
  have alwr : Alive wr s₂.heap := fun b hb => T.live 0 _ hst b hb
  have hal : Alive (wr ++ (s₂.heap.objs.size :: X)) s₃.heap := fun a ha => by
    rcases List.mem_append.mp ha with h | h
    · exact alwr.keeps k₃.heap a h
    · rcases List.mem_cons.mp h with rfl | h
      · exact ⟨_, hacc3⟩
      · exact W.alive.keeps k03.heap a h
  have hX' : ∀ a ∈ wr ++ (s₂.heap.objs.size :: X), a ∈ X ∨ s.heap.get? a = none := fun a ha => by
    rcases List.mem_append.mp ha with h | h
    · exact .inr (hwr a h)
    · rcases List.mem_cons.mp h with rfl | h
      · exact .inr (fresh _ (Nat.le_refl _))
      · exact .inl h
  have hWb : env.builtins = builtinsNs := W.built
  refine wpAny_newFrame (ds := []) (c.keeps _ _ k03.heap hW) hk hal (fun x a hm => ⟨by obtain ⟨v, hv⟩ := (hcl x a hm).1; exact ⟨v, k03.heap.cell hv⟩, (hcl x a hm).2.1⟩) hap hfr (by intro p hp; cases hp) .nil (fun o e => by cases e; exact hWb) fun cenv s₄ e1 e2 e3 e4 W₄ B₄ => ?_
  obtain ⟨Wc, Bc⟩ := comp_frame (s₃ := s₃) hs hn W hcl hfr hclf k03 e1 e3 (by simpa using W₄) B₄ hX'
  have hst₄ : St 0 s₄.heap := by
    obtain ⟨Md, KT⟩ := T.ex
    exact KT.frame _ _ _ hst fun b hb o e => (k₃.trans B₄.kp).heap.at' b o e (T.ntab _ _ hst b hb o e)
  have hfpE₄ : ∀ b ∈ fp, NoEnv s₄.heap b := fun b hb => by
    obtain ⟨⟨o, e⟩, h1, h2⟩ := hfpE b hb
    have e₄ := (k₃.trans B₄.kp).heap.at' b o e (T.ntab _ _ hst b hb o e)
    refine ⟨fun m hm => h1 m ?_, fun v hv => h2 v ?_⟩
    · obtain ⟨o', es, ep, q1, q2, q3, q4⟩ := hm; rw [e₄] at q1; cases q1; exact ⟨o, es, ep, e, q2, q3, q4⟩
    · obtain ⟨o', q1, q2⟩ := hv; rw [e₄] at q1; cases q1; exact ⟨o, e, q2⟩
  have hacc4 : s₄.heap.get? s₂.heap.objs.size = some { cls := .type "list", dict := none, data := .seq ([] : List Value).toArray } := B₄.kp.heap.at' _ _ hacc3 rfl
  have hsh₄ : ShReps s₄.heap (wr ++ (s₂.heap.objs.size :: X)) shs src := by
    refine ⟨hsh.1, fun i sh d h1 h2 => ?_⟩
    have kk : Keep s₂.heap s₄.heap := (k₃.trans B₄.kp).heap
    have mm : ∀ a ∈ wr ++ (s₂.heap.objs.size :: X), a ∈ wr ++ X ∨ s₂.heap.get? a = none := fun a ha => by
      rcases List.mem_append.mp ha with h | h
      · exact .inl (List.mem_append_left _ h)
      · rcases List.mem_cons.mp h with rfl | h
        · right
          cases e : s₂.heap.get? s₂.heap.objs.size with
          | none => rfl
          | some o' => exact absurd (Heap.lt_size e) (Nat.lt_irrefl _)
        · exact .inl (List.mem_append_right _ h)
    cases hsh.2 i sh d h1 h2 with
    | val r => exact .val (r.more kk mm)
    | int i => exact .int i
    | pair r q => exact .pair (r.more kk mm) (q.more kk mm)
  have loop : codeAny (model c.prog c.w) A (.compLoop (.ListComp elt (⟨target, iter, ifs, 0⟩ :: rest) scope pos) 0 (.ref I) (.ref s₂.heap.objs.size) { cenv with scope := relabel scope env }) (R (.ref s₂.heap.objs.size) cenv.locals) s₄ := by
    refine comp_loop (s₀ := s) (env := { cenv with scope := relabel scope env }) (names := relabelN names scope.names) (cl := frees scope.names) (X := s₂.heap.objs.size :: X) (vs := []) (ds := []) (keep := keep) (outs := outs) rfl (fun t' i' f' a h => hg' t' i' f' a (by simpa using h)) hA (by show (relabel scope env).names = _; rw [relabel_names scope W.kind, hn]) hW T hst₄ ?_ hfpE₄ hwr hsh₄ Wc Bc (fresh _ (Nat.le_refl _)) (.head _) ⟨_, hacc4⟩ .nil (by simpa using hlen) (fun x hx => ?_) turn fun s' q => ?_
    · intro b hb hm
      rcases List.mem_cons.mp hm with rfl | hm
      · obtain ⟨⟨o, e⟩, _⟩ := hfpE _ hb; exact Nat.lt_irrefl _ (Heap.lt_size e)
      · exact hfpX b hb hm
    · cases q : (capt ρ scope.names).lookup x with
      | none => rfl
      | some d => exact absurd (capt_lookup _ _ _ _ q).2 (hbn x hx)
    · have w := q.ok
      have b := q.base
      obtain ⟨m, hm⟩ := w.ns
      obtain ⟨vs', p, r⟩ := q.list
      have hne : s₂.heap.objs.size ≠ cenv.locals := (not_acc_env w p).1
      refine hR _ _ m s' hm b.loc hne fun h' hsb => ?_
      have sk : SeqKeep (s₂.heap.objs.size :: X) s'.heap h' := .sameBut hsb fun _ _ _ e => not_seq_of_ns hm e
      obtain ⟨mm, e⟩ := p
      refine ⟨.list (fun h => ?_) ⟨mm, (hsb.2 _ hne).trans e⟩ (by simpa using hlen) ((by simpa using r : Reps s'.heap (s₂.heap.objs.size :: X) vs' (gather keep outs src)).keep sk |>.less fun _ h => .tail _ h), ⟨b.kp.heap.but fun a o e e' => ?_, b.kp.os, b.kp.gens⟩⟩
      · obtain ⟨o, e⟩ := W.alive _ h
        rw [fresh _ (Nat.le_refl _)] at e; exact ns_ e
      · refine (hsb.2 a ?_).trans e'
        rintro rfl
        have := b.loc
        rw [show s.heap.get? cenv.locals = none from this] at e; exact ns_ e
  exact compStart_any rfl loop (T.self 0 s₄ _ _ hst₄ loop)
theorem Ev.comp {elt target iter : Expr} {ifs : List Expr} {rest : List Comprehension} {scope : Scope} {pos : Pos} {src : List D} {keep : D → Bool} {outs : D → List D}
    (hs : compOK names scope = true) (hg' : ∀ t' i' f' a, rest[0]? = some ⟨t', i', f', a⟩ → a = 0) (hsrc : Src c n names none ρ target iter src) (hbn : ∀ x ∈ binder target, scope.names.lookup x ≠ some .free)
    (hlen : (gather keep outs src).length ≤ lim)
    (turn : ∀ d ∈ src, ∃ bs, Binds (relabelN names scope.names) (frees scope.names) target d bs ∧ Tests c n (relabelN names scope.names) (bs ++ capt ρ scope.names) ifs (keep d) ∧
      (keep d = true → Em c n (relabelN names scope.names) (frees scope.names) elt (⟨target, iter, ifs, 0⟩ :: rest) scope pos 1 (bs ++ capt ρ scope.names) (outs d))) :
    Ev c n names none ρ (.ListComp elt (⟨target, iter, ifs, 0⟩ :: rest) scope pos) (.list (gather keep outs src)) := fun A env X s E hA hn hW W => by
  obtain ⟨⟨⟨hf, hu⟩, hk⟩, hd⟩ : ((freeOK names scope.names = true ∧ uniqNames scope.names = true) ∧ scope.kind = .function) ∧ (frees scope.names).Nodup := by simpa [compOK, noTwice] using hs
  obtain ⟨cl, h1, h2, h3, h4, h5⟩ := closure_ok hs hn W
  rw [eval_ListComp]
  refine wpAny_comprehension_free (use := none) rfl (hsrc.1 env) h1 hk (fun x hx hl => by obtain ⟨y, k⟩ := x; obtain rfl : k = .local := hl; exact uniq_at hu hx)
    (comp_core (R := fun acc C => compPost (model c.prog c.w) A E none (Good X (.list (gather keep outs src)) s) acc C) hs hg' hsrc hbn hlen turn hA hn hW W h2 h3 h4 h5 fun D C m s' hm _ _ hq => ⟨m, hm, fun h' hsb => hq h' hsb⟩)
end
end
section
open PySem PySem.W PyProof.Rows
variable [Lo]
section
variable {c : Cfg} {n : Nat} {names : Names} {o : Own} {ρ : Vars} {cl : List Str} {A : Around} {E : Value → Shared → Prop} {s s₀ : Shared} {env : Env} {X : List Addr}
theorem fields_no {vs : Array Value} : (∀ es ep, Data.fields vs ≠ .dict es ep) ∧ ∀ v, Data.fields vs ≠ .cell v := ⟨fun _ _ h => Data.noConfusion h, fun _ h => Data.noConfusion h⟩
theorem seq_no {vs : Array Value} {n : Nat} : (∀ es ep, Data.seq vs n ≠ .dict es ep) ∧ ∀ v, Data.seq vs n ≠ .cell v := ⟨fun _ _ h => Data.noConfusion h, fun _ h => Data.noConfusion h⟩
theorem noEnv_of {h : Heap} {b : Addr} {ob : Obj} (e : h.get? b = some ob) (h1 : ∀ es ep, ob.data ≠ .dict es ep) (h2 : ∀ v, ob.data ≠ .cell v) : Here h b ∧ NoEnv h b := by
  refine ⟨⟨_, e⟩, fun m q => ?_, fun v q => ?_⟩
  · obtain ⟨o, es, ep, q, d, _⟩ := q
    rw [← Option.some.inj (e.symm.trans q)] at d; exact h1 _ _ d
  · obtain ⟨o, q, d⟩ := q
    rw [← Option.some.inj (e.symm.trans q)] at d; exact h2 _ d
noncomputable def goOwn (I a : Addr) : Sem Unit := do
      let o ← load I
      match o.cls, o.data with
      | .type n, .fields vs =>
        if ["enumerate", "zip", "dict_itemiterator", "dict_reverseitemiterator", "odict_iterator", "itertools.zip_longest", "itertools.pairwise"].contains n && vs[0]? == some (rawInt a) then
          rule "for.unpacks-the-owned-tuple"
          updateField I 0 .none
      | _, _ => pure ()
theorem letGo_form (target : Expr) (I : Addr) (v : Value) : letOwnedTupleGo target (.ref I) v = pure () ∨ ∃ a, letOwnedTupleGo target (.ref I) v = goOwn I a := by
  cases target <;> first
    | exact .inl rfl
    | (cases v <;> first
        | exact .inl rfl
        | exact .inr ⟨_, rfl⟩)
theorem letGo_cls {target : Expr} {I : Addr} {v : Value} {Q : Unit → Shared → Prop} {ob : Obj} {T : String} (ho : s.heap.get? I = some ob) (hc : ob.cls = .type T) (hT : ["enumerate", "zip", "dict_itemiterator", "dict_reverseitemiterator", "odict_iterator", "itertools.zip_longest", "itertools.pairwise"].contains T = false) (h : Q () s) :
    wpAny (model c.prog c.w) A (letOwnedTupleGo target (.ref I) v) Q E s := by
  rcases letGo_form target I v with e | ⟨a, e⟩
  · rw [e]; exact wpAny_pure h
  · rw [e]
    refine wpAny_bind (wpAny_load ho ?_)
    rw [hc]
    cases ob.data with
    | fields vs =>
      show wpAny _ _ (if (_ && _) = true then _ else _) _ _ _
      rw [hT]; exact wpAny_pure h
    | _ => exact wpAny_pure h
noncomputable def Typed (h : Heap) (b : Addr) : Prop := ∃ o, h.get? b = some o ∧ soft b o = false
theorem Typed.tab {h : Heap} {b : Addr} {o : Obj} (t : Typed h b) (e : h.get? b = some o) : soft b o = false := by
  obtain ⟨o', e', hc⟩ := t
  rw [e] at e'; obtain rfl := Option.some.inj e'
  exact hc
/-- an iterator of the library, as turns -/
theorem Turns.ofWalks {target : Expr} {I : Addr} {fp wr : List Addr} {shs : List Shape} {P : Nat → Value → Prop} {St : Nat → Heap → Prop} (W : Walks c.prog c.w A I fp wr shs.length P St) (hP : ∀ i v h, P i v → ∃ sh, shs[i]? = some sh ∧ sh.is v h)
    (hgo : ∀ i v (s : Shared) (Q : Unit → Shared → Prop) (E : Value → Shared → Prop), St i s.heap → Q () s → wpAny (model c.prog c.w) A (letOwnedTupleGo target (.ref I) v) Q E s) (live : ∀ i h, St i h → ∀ b ∈ wr, Here h b) (nm : ∀ sh ∈ shs, ∀ a b, sh ≠ .pair a b) (ntab : ∀ i h, St i h → ∀ b ∈ fp, Typed h b) :
    Turns c A target I fp wr shs St where
  ex := ⟨fun i v h => P i v ∧ St (i + 1) h, {
    sub := W.sub
    frame := W.frame
    item := fun i s Q E hi st hQ => W.item i s Q E hi st fun v h' tk hp st' hk => hQ v h' tk ⟨hp, st'⟩ hk
    go := fun i v s Q E hm hQ => hgo (i + 1) v s Q E hm.2 (hQ s.heap (hP i v _ hm.1) hm.2 fun _ _ _ e => e)
    done := W.done }⟩
  self := W.self
  live := live
  nm := fun _ _ _ => nm
  ntab := fun i h st b hb o e => (ntab i h st b hb).tab e
/-- a new iterator over what stands -/
theorem src_push {target : Expr} {ds : List D} {s₁ : Shared} {TI : String} {fs : Array Value} {old : List Addr} {shs : List Shape} {St : Nat → Heap → Prop} {Q : Value → Shared → Prop} (kp : Kp s s₁) (W : EnvOK o X s.heap env ρ)
    (k : ∀ I fp wr shs St s₂, Kp s s₂ → Turns c A target I fp wr shs St → St 0 s₂.heap → (∀ b ∈ wr, s.heap.get? b = none) → (∀ b ∈ fp, b ∉ X) → (∀ b ∈ fp, Here s₂.heap b ∧ NoEnv s₂.heap b) → ShReps s₂.heap (wr ++ X) shs ds → Q (.ref I) s₂)
    (hold : ∀ b ∈ old, b ∉ X ∧ ∃ T vs n, s₁.heap.get? b = some { cls := .type T, data := .seq vs n }) (T : Turns c A target s₁.heap.objs.size (s₁.heap.objs.size :: old) [s₁.heap.objs.size] shs St)
    (st : (s₁.heap.push { cls := .type TI, data := .fields fs }).get? s₁.heap.objs.size = some { cls := .type TI, data := .fields fs } → St 0 (s₁.heap.push { cls := .type TI, data := .fields fs }))
    (sh : ∀ h' Y, Keep s₁.heap h' → (∀ b ∈ Y, b ∈ X ∨ s₁.heap.get? b = none) → ShReps h' Y shs ds) : Q (.ref s₁.heap.objs.size) { s₁ with heap := s₁.heap.push { cls := .type TI, data := .fields fs } } := by
  have hI : (s₁.heap.push { cls := .type TI, data := .fields fs }).get? s₁.heap.objs.size = some { cls := .type TI, data := .fields fs } := Heap.get?_push_size _ rfl
  have st := st hI
  have k1 : Keep s₁.heap (s₁.heap.push { cls := .type TI, data := .fields fs }) := .of fun _ _ e => Heap.get?_push_of_some _ e
  generalize s₁.heap.push { cls := .type TI, data := .fields fs } = h' at hI st k1 ⊢
  have hfr : ∀ {o'}, s.heap.get? s₁.heap.objs.size = some o' → False := fun e => Nat.lt_irrefl _ (kp.heap.lt e)
  refine k _ _ _ _ _ _ (kp.trans ⟨k1, rfl, fun x => x⟩) T st (fun b hb => ?_) (fun b hb hX => ?_) (fun b hb => ?_) (sh h' _ k1 fun b hb => ?_)
  · rw [List.mem_singleton.mp hb]
    cases e : s.heap.get? s₁.heap.objs.size with
    | none => rfl
    | some o' => exact (hfr e).elim
  · rcases List.mem_cons.mp hb with e | hb
    · obtain ⟨o', q⟩ := W.alive _ hX; exact hfr (e ▸ q)
    · exact (hold b hb).1 hX
  · rcases List.mem_cons.mp hb with e | hb
    · rw [e]; exact noEnv_of hI fields_no.1 fields_no.2
    · obtain ⟨_, T, vs, n, e⟩ := hold b hb
      exact noEnv_of (k1.at' _ _ e rfl) seq_no.1 seq_no.2
  · rcases List.mem_append.mp hb with h | h
    · right; rw [List.mem_singleton.mp h]
      cases e : s₁.heap.get? s₁.heap.objs.size with
      | none => rfl
      | some o' => exact absurd (Heap.lt_size e) (Nat.lt_irrefl _)
    · exact .inl h
theorem reps_sh {h h' : Heap} {Y : List Addr} {vs : List Value} {ds : List D} (rs : Reps h X vs ds) (k : Keep h h') (hY : ∀ b ∈ Y, b ∈ X ∨ h.get? b = none) : ShReps h' Y (vs.map .val) ds := by
  refine ⟨(List.length_map _).trans rs.length, fun i sh d h1 h2 => ?_⟩
  rw [List.getElem?_map] at h1
  obtain ⟨v, hv, rv⟩ := rs.get h2
  rw [hv] at h1
  rw [← Option.some.inj h1]
  exact .val (rv.more k hY)
theorem val_pair {vs : List Value} (sh : Shape) (hsh : sh ∈ vs.map Shape.val) (a b : Value) : sh ≠ .pair a b := by
  obtain ⟨v, _, rfl⟩ := List.mem_map.mp hsh; exact Shape.noConfusion
theorem seq_turns {target : Expr} {I a : Addr} {vs : List Value} {St : Nat → Heap → Prop} {T : String} (hT : ["enumerate", "zip", "dict_itemiterator", "dict_reverseitemiterator", "odict_iterator", "itertools.zip_longest", "itertools.pairwise"].contains T = false)
    (W : Walks c.prog c.w A I [I, a] [I] vs.toArray.size (fun i v => vs.toArray[i]? = some v) St) (hst : ∀ i h, St i h → (∃ ob, h.get? I = some ob ∧ ob.cls = .type T ∧ soft I ob = false) ∧ Typed h a) : Turns c A target I [I, a] [I] (vs.map .val) St := by
  refine Turns.ofWalks (P := fun i v => vs.toArray[i]? = some v) (by rw [List.length_map]; exact W) (fun i v h hv => ⟨.val v, ?_, rfl⟩) (fun i v s' Q' E' st hq => ?_) (fun i h st b hb => ?_) val_pair fun i h st b hb => ?_
  · rw [List.getElem?_map, ← List.getElem?_toArray, hv]; rfl
  · obtain ⟨⟨ob, e, hc, _⟩, _⟩ := hst _ _ st
    exact letGo_cls e hc hT hq
  · obtain ⟨⟨ob, e, _⟩, _⟩ := hst _ _ st
    rw [List.mem_singleton.mp hb]; exact ⟨_, e⟩
  · obtain ⟨⟨ob, e, _, t⟩, q⟩ := hst _ _ st
    rcases List.mem_cons.mp hb with rfl | hb
    · exact ⟨_, e, t⟩
    · rw [List.mem_singleton.mp hb]; exact q
theorem Src.list {target iter : Expr} {ds : List D} (h : Ev c n names o ρ iter (.list ds)) (hs : ∀ env x, foldedSetIterable iter env x = pure x := by intro _ _; rfl) : Src c n names o ρ target iter ds :=
  ⟨hs, fun A env X s E Q hA hn hW W k => by
    refine then_ (h A env X s E hA hn hW W) fun v s₁ g => ?_
    have kp := g.2
    refine g.1.onList (P := fun v => wpAny (model c.prog c.w) A (pyIter v) Q E s₁) fun a vs ha p hl rs => ?_
    refine wpAny_pyIter_list p.isList (src_push kp W k (old := [a]) (fun b hb => ?_) (seq_turns (T := "list_iterator") (St := fun i h => h.IsListIter s₁.heap.objs.size a i ∧ h.IsList a vs.toArray) (by decide) (Walks.list hA.handled _ a ?_ vs.toArray) fun i h st => ?_) (fun hI => ⟨⟨_, hI, rfl, rfl⟩, p.isList.push _⟩) fun _ _ k hY => reps_sh rs k hY)
    · obtain ⟨m, e⟩ := p; rw [List.mem_singleton.mp hb]; exact ⟨ha, _, _, _, e⟩
    · obtain ⟨m, e⟩ := p; exact Nat.ne_of_lt (Heap.lt_size e)
    · obtain ⟨⟨o1, e1, c1, d1⟩, o2, e2, c2, n2, d2⟩ := st
      exact ⟨⟨_, e1, c1, soft_fields c1 d1⟩, _, e2, soft_seq d2⟩⟩
theorem Src.tup {target iter : Expr} {ds : List D} (h : Ev c n names o ρ iter (.tup ds)) (hs : ∀ env x, foldedSetIterable iter env x = pure x := by intro _ _; rfl) : Src c n names o ρ target iter ds :=
  ⟨hs, fun A env X s E Q hA hn hW W k => by
    refine then_ (h A env X s E hA hn hW W) fun v s₁ g => ?_
    have kp := g.2
    refine g.1.onTup (P := fun v => wpAny (model c.prog c.w) A (pyIter v) Q E s₁) fun a vs ha p hl rs => ?_
    refine wpAny_pyIter_tuple p.isTuple (src_push kp W k (old := [a]) (fun b hb => ?_) (seq_turns (T := "tuple_iterator") (St := fun i h => h.IsTupleIter s₁.heap.objs.size a i ∧ h.IsTuple a vs.toArray) (by decide) (Walks.tuple hA.handled _ a ?_ vs.toArray) fun i h st => ?_) (fun hI => ⟨⟨_, hI, rfl, rfl⟩, p.isTuple.push _⟩) fun _ _ k hY => reps_sh rs k hY)
    · obtain ⟨m, e⟩ := p; rw [List.mem_singleton.mp hb]; exact ⟨ha, _, _, _, e⟩
    · obtain ⟨m, e⟩ := p; exact Nat.ne_of_lt (Heap.lt_size e)
    · obtain ⟨⟨o1, e1, c1, d1⟩, o2, e2, c2, n2, d2⟩ := st
      exact ⟨⟨_, e1, c1, soft_fields c1 d1⟩, _, e2, soft_seq d2⟩⟩
/-- a count -/
noncomputable def rng (a b : Int) : List Int := (List.range (b - a).toNat).map fun (i : Nat) => a + (i : Int)
theorem src_range {target iter : Expr} {a b : Int} (ha : -(2 ^ 40) ≤ a ∧ a ≤ 2 ^ 40) (hb : -(2 ^ 40) ≤ b ∧ b ≤ 2 ^ 40) (hs : ∀ env x, foldedSetIterable iter env x = pure x)
    (h : ∀ (A : Around) (env : Env) (X : List Addr) (s : Shared) (E : Value → Shared → Prop), OkA c n A → env.scope.names = names → c.Wf s.heap → EnvOK o X s.heap env ρ →
      wpAny (model c.prog c.w) A (eval iter env) (fun v s₁ => ∃ r t u z, v = .ref r ∧ IsRange s₁.heap r a b 1 t u z ∧ Kp s s₁) E s) : Src c n names o ρ target iter ((rng a b).map .int) :=
  ⟨hs, fun A env X s E Q hA hn hW W k => by
    refine then_ (h A env X s E hA hn hW W) fun v s₁ g => ?_
    obtain ⟨r, t, u, z, rfl, hr, kp⟩ := g
    have hsize : Builtin.Range.rangeSize a b 1 = ((b - a).toNat : Int) := by rw [rangeSize_one]; split <;> (first | exact z283 ‹_› | exact z313 ‹_›)
    refine wpAny_pyIter_range hr (by unfold Builtin.Range.small Builtin.Range.rangeFitsLong; rw [hsize]; simp; exact z62 ha hb) ?_
    rw [hsize]
    have hl : ((rng a b).map Shape.int).length = (b - a).toNat := by unfold rng; rw [List.length_map, List.length_map, List.length_range]
    refine src_push kp W k (old := []) (shs := (rng a b).map .int) (St := fun i h => IsRangeIter h s₁.heap.objs.size (a + (i : Nat) * 1) (((b - a).toNat : Int) - (i : Nat)) 1) (fun b hb => absurd hb List.not_mem_nil)
      (Turns.ofWalks (P := fun i v => i < (b - a).toNat ∧ ∃ t, v = .int (a + i * 1) t) ?_ ?_ (fun i v s' Q' E' st hq => letGo_cls st rfl (by decide) hq) ?_ ?_ ?_) (fun hI => by simpa using hI) fun _ _ _ _ => ?_
    · rw [hl]
      have WR := Walks.range (prog := c.prog) (w := c.w) hA.handled s₁.heap.objs.size a 1 (b - a).toNat
      exact { sub := WR.sub, frame := WR.frame, item := fun i s Q E hi st hQ => WR.item i s Q E hi st fun v h' tk hp => hQ v h' tk ⟨hi, hp⟩, done := WR.done, self := WR.self }
    · rintro i v h ⟨hi, t, rfl⟩
      refine ⟨.int (a + i), ?_, t, by rw [Int.mul_one]⟩
      simp [rng, hi]
    · intro i h st b hb
      rw [List.mem_singleton.mp hb]; exact ⟨_, st⟩
    · intro sh hsh a b
      obtain ⟨v, _, rfl⟩ := List.mem_map.mp hsh; exact Shape.noConfusion
    · intro i h st b hb
      rw [List.mem_singleton.mp hb]; exact ⟨_, st, rfl⟩
    · refine ⟨by rw [List.length_map, List.length_map], fun i sh d h1 h2 => ?_⟩
      rw [List.getElem?_map] at h1 h2
      cases q : (rng a b)[i]? with
      | none => rw [q] at h1; exact ns_ h1
      | some k => rw [q] at h1 h2; rw [← Option.some.inj h1, ← Option.some.inj h2]; exact .int k⟩
/-- a built-in type's call -/
theorem type_call {x : Str} {T : String} {fp pos : Pos} {as : List Expr} {ds : List D} {Q : Value → Shared → Prop} (hf : Ev c n names o ρ (.Name x fp) (.val (.type T))) (ha : Evs c n names o ρ as ds) (hns : noStars as = true) (hA : OkA c n A) (hn : env.scope.names = names) (hW : c.Wf s.heap) (W : EnvOK o X s.heap env ρ)
    (h : ∀ vs s', Kp s s' → Reps s'.heap X vs ds → wpAny (model c.prog c.w) A (call (.type T) vs []) Q E s') : wpAny (model c.prog c.w) A (eval (.Call (.Name x fp) as [] pos) env) Q E s := by
  refine wpAny_Call_Name_kw (then_ (hf A env X s E hA hn hW W) fun v s₁ g => ?_)
  have k := g.2
  refine g.1.onVal (P := fun v => wpAny (model c.prog c.w) A (callWith pos v [] (backTo pos (starEach as env)) (backToKw pos (keywordEach [] env))) Q E s₁) ?_
  refine wpAny_callAny (P := fun a s' => Kp s s' ∧ Reps s'.heap X a.pos ds ∧ a.kw = []) (noStars_each hns env pos) rfl ?_ ?_
  · exact evalArgs_plain' (noStars_each hns env pos) rfl (then_ (ha A env X s₁ E pos hA hn (c.keeps _ _ k.heap hW) (W.keeps k.heap)) fun vs s₂ g₂ => wpAny_evalAll_nil ⟨k.trans g₂.2, g₂.1, rfl⟩)
  · exact fun a s' q => ⟨.type _, by rw [q.2.2]; exact h _ _ q.1 q.2.1⟩
theorem noStars1 {e : Expr} (he : isStarred e = false) : noStars [e] = true := by unfold noStars; rw [List.all_cons, he]; rfl
theorem noStars2 {e e' : Expr} (he : isStarred e = false) (he' : isStarred e' = false) : noStars [e, e'] = true := by unfold noStars; rw [List.all_cons, List.all_cons, he, he']; rfl
theorem Src.range1 {target : Expr} {e : Expr} {fp pos : Pos} {b : Int} (hf : Ev c n names o ρ (.Name "range" fp) (.val (.type "range"))) (h : Ev c n names o ρ e (.int b)) (hb : -(2 ^ 40) ≤ b ∧ b ≤ 2 ^ 40) (he : isStarred e = false := by rfl) :
    Src c n names o ρ target (.Call (.Name "range" fp) [e] [] pos) ((rng 0 b).map .int) :=
  src_range (by decide) hb (by intro _ _; rfl) fun A env X s E hA hn hW W => by
    refine type_call hf (Evs.cons h Evs.nil he) (noStars1 he) hA hn hW W fun vs s' k' r' => ?_
    obtain ⟨v, rfl, rv⟩ := Reps.one r'
    obtain ⟨t, rfl⟩ := rv.inv
    exact call_range_1 ⟨_, _, _, _, rfl, IsRange.new .., k'.trans ⟨.of fun _ _ e => Heap.get?_push_of_some _ e, rfl, fun x => x⟩⟩
theorem Src.range2 {target : Expr} {e e' : Expr} {fp pos : Pos} {a b : Int} (hf : Ev c n names o ρ (.Name "range" fp) (.val (.type "range"))) (h : Ev c n names o ρ e (.int a)) (h' : Ev c n names o ρ e' (.int b)) (ha : -(2 ^ 40) ≤ a ∧ a ≤ 2 ^ 40) (hb : -(2 ^ 40) ≤ b ∧ b ≤ 2 ^ 40) (he : isStarred e = false := by rfl) (he' : isStarred e' = false := by rfl) :
    Src c n names o ρ target (.Call (.Name "range" fp) [e, e'] [] pos) ((rng a b).map .int) :=
  src_range ha hb (by intro _ _; rfl) fun A env X s E hA hn hW W => by
    refine type_call hf (Evs.cons h (Evs.cons h' Evs.nil he') he) (noStars2 he he') hA hn hW W fun vs s' k' r' => ?_
    obtain ⟨v, u, rfl, rv, ru⟩ := Reps.two r'
    obtain ⟨t, rfl⟩ := rv.inv
    obtain ⟨u, rfl⟩ := ru.inv
    exact call_range_2 ⟨_, _, _, _, rfl, IsRange.new .., k'.trans ⟨.of fun _ _ e => Heap.get?_push_of_some _ e, rfl, fun x => x⟩⟩
theorem zipApart_of (N l1 l2 : Nat) (h1 : l1 < N) (h2 : l2 < N) : ZipApart (N + 4) (N + 2) (N + 3) N (N + 1) l1 l2 := by
  constructor <;> (intro h; have : (_ : Nat) = _ := h; omega)
noncomputable def zfp (N l1 l2 : Nat) : List Addr := [N + 4, N + 2, N + 3, N, N + 1, l1, l2]
noncomputable def zwr (N : Nat) : List Addr := [N + 4, N + 3, N, N + 1]
theorem zfp_all {N l1 l2 : Nat} {P : Addr → Prop} (h4 : P (N + 4)) (h2 : P (N + 2)) (h3 : P (N + 3)) (h0 : P N) (h1 : P (N + 1)) (q1 : P l1) (q2 : P l2) : ∀ b ∈ zfp N l1 l2, P b :=
  List.forall_mem_cons.mpr ⟨h4, List.forall_mem_cons.mpr ⟨h2, List.forall_mem_cons.mpr ⟨h3, List.forall_mem_cons.mpr ⟨h0, List.forall_mem_cons.mpr ⟨h1, List.forall_mem_cons.mpr ⟨q1, List.forall_mem_cons.mpr ⟨q2, fun _ h => absurd h List.not_mem_nil⟩⟩⟩⟩⟩⟩⟩
theorem zwr_all {N : Nat} {P : Addr → Prop} (h4 : P (N + 4)) (h3 : P (N + 3)) (h0 : P N) (h1 : P (N + 1)) : ∀ b ∈ zwr N, P b :=
  List.forall_mem_cons.mpr ⟨h4, List.forall_mem_cons.mpr ⟨h3, List.forall_mem_cons.mpr ⟨h0, List.forall_mem_cons.mpr ⟨h1, fun _ h => absurd h List.not_mem_nil⟩⟩⟩⟩
noncomputable def ZSt (N l1 l2 : Nat) (xs ys : List Value) (i : Nat) (h : Heap) : Prop :=
  IsZip h (N + 4) (N + 2) (N + 3) .none ∧ IsPair h (N + 2) (.ref N) (.ref (N + 1)) ∧ (∃ a b, IsPair h (N + 3) a b) ∧ h.IsListIter N l1 i ∧ h.IsListIter (N + 1) l2 i ∧ h.IsList l1 xs.toArray ∧ h.IsList l2 ys.toArray
theorem ZSt.typed {N l1 l2 : Nat} {xs ys : List Value} {i : Nat} {h : Heap} (st : ZSt N l1 l2 xs ys i h) : ∀ b ∈ zfp N l1 l2, Typed h b := by
  obtain ⟨hz, h2, ⟨a, b', hTO⟩, ⟨o1, e1, c1, d1⟩, ⟨o2, e2, c2, d2⟩, ⟨o3, e3, c3, n3, d3⟩, ⟨o4, e4, c4, n4, d4⟩⟩ := st
  exact zfp_all ⟨_, hz, rfl⟩ ⟨_, h2, rfl⟩ ⟨_, hTO, rfl⟩ ⟨_, e1, soft_fields c1 d1⟩ ⟨_, e2, soft_fields c2 d2⟩ ⟨_, e3, soft_seq d3⟩ ⟨_, e4, soft_seq d4⟩
theorem Typed.noEnv {h : Heap} {b : Addr} (t : ∃ o, h.get? b = some o ∧ ((∃ vs, o.data = .fields vs) ∨ ∃ vs n, o.data = .seq vs n)) : Here h b ∧ NoEnv h b := by
  obtain ⟨o, e, ⟨vs, d⟩ | ⟨vs, n, d⟩⟩ := t
  · exact noEnv_of e (by rw [d]; exact fields_no.1) (by rw [d]; exact fields_no.2)
  · exact noEnv_of e (by rw [d]; exact seq_no.1) (by rw [d]; exact seq_no.2)
theorem ZSt.noEnv {N l1 l2 : Nat} {xs ys : List Value} {i : Nat} {h : Heap} (st : ZSt N l1 l2 xs ys i h) : ∀ b ∈ zfp N l1 l2, Here h b ∧ NoEnv h b := by
  obtain ⟨hz, h2, ⟨a, b', hTO⟩, ⟨o1, e1, c1, d1⟩, ⟨o2, e2, c2, d2⟩, ⟨o3, e3, c3, n3, d3⟩, ⟨o4, e4, c4, n4, d4⟩⟩ := st
  exact zfp_all (Typed.noEnv ⟨_, hz, .inl ⟨_, rfl⟩⟩) (Typed.noEnv ⟨_, h2, .inr ⟨_, _, rfl⟩⟩) (Typed.noEnv ⟨_, hTO, .inr ⟨_, _, rfl⟩⟩) (Typed.noEnv ⟨_, e1, .inl ⟨_, d1⟩⟩) (Typed.noEnv ⟨_, e2, .inl ⟨_, d2⟩⟩) (Typed.noEnv ⟨_, e3, .inr ⟨_, _, d3⟩⟩) (Typed.noEnv ⟨_, e4, .inr ⟨_, _, d4⟩⟩)
theorem ZSt.live {N l1 l2 : Nat} {xs ys : List Value} {i : Nat} {h : Heap} (st : ZSt N l1 l2 xs ys i h) : ∀ b ∈ zwr N, Here h b := by
  obtain ⟨hz, _, ⟨a, b', hTO⟩, ⟨o1, e1, _⟩, ⟨o2, e2, _⟩, _⟩ := st
  exact zwr_all ⟨_, hz⟩ ⟨_, hTO⟩ ⟨_, e1⟩ ⟨_, e2⟩
theorem zip_turns {elts : List Expr} {kk : Nat} {tp : Pos} {N l1 l2 : Nat} {xs ys : List Value} (hA : A.handled = none) (lt1 : l1 < N) (lt2 : l2 < N) : Turns c A (.Tuple elts kk tp) (N + 4) (zfp N l1 l2) (zwr N) (List.zipWith .pair xs ys) (ZSt N l1 l2 xs ys) := by
  have U := (WalksT.zip2 (prog := c.prog) (w := c.w) (A := A) hA (N + 4) (N + 2) (N + 3) N (N + 1) l1 l2 (zipApart_of N l1 l2 lt1 lt2) xs.toArray ys.toArray).toU
  have hlen : (List.zipWith Shape.pair xs ys).length = min xs.toArray.size ys.toArray.size := List.length_zipWith
  refine { ex := ?_, self := fun i => U.self i, live := fun _ _ st => st.live, nm := fun x px e => (by cases e), ntab := fun i h st b hb o e => (st.typed b hb).tab e }
  rw [hlen]
  have KT := KTurns.ofWalksU (elts := elts) (k := kk) (pos := tp) U
  exact ⟨_, { sub := KT.sub, frame := KT.frame, item := KT.item, done := KT.done
              go := fun i v s Q E hm hQ => KT.go i v s Q E hm fun h' hp st hk => hQ h' (by
                obtain ⟨T, vals, rfl, ⟨x, y, hx, hy, rfl⟩, hT⟩ := hp
                refine ⟨.pair x y, ?_, T, rfl, hT⟩
                rw [List.getElem?_toArray] at hx hy
                rw [List.getElem?_zipWith, hx, hy]) st hk }⟩
theorem zip_reps {h h' : Heap} {X Y : List Addr} {xs ys : List Value} {ds es : List D} (r1 : Reps h X xs ds) (r2 : Reps h X ys es) (k : Keep h h') (hY : ∀ b ∈ Y, b ∈ X ∨ h.get? b = none) : ShReps h' Y (List.zipWith .pair xs ys) (List.zipWith (fun a b => .tup [a, b]) ds es) := by
  refine ⟨by rw [List.length_zipWith, List.length_zipWith, r1.length, r2.length], fun i sh d g1 g2 => ?_⟩
  rw [List.getElem?_zipWith] at g1 g2
  rcases r1.nth? i with ⟨x, dx, e1, e2, rx⟩ | q
  · rcases r2.nth? i with ⟨y, dy, e3, e4, ry⟩ | q
    · rw [e1, e3] at g1; rw [e2, e4] at g2
      rw [← Option.some.inj g1, ← Option.some.inj g2]
      exact .pair (rx.more k hY) (ry.more k hY)
    · rw [e1, q.1] at g1; exact ns_ g1
  · rw [q.1] at g1; exact ns_ g1
theorem Src.zip {target : Expr} {elts : List Expr} {kk : Nat} {tp : Pos} {e e' : Expr} {fp pos : Pos} {ds es : List D} (ht : target = .Tuple elts kk tp) (hf : Ev c n names o ρ (.Name "zip" fp) (.val (.type "zip"))) (h : Ev c n names o ρ e (.list ds)) (h' : Ev c n names o ρ e' (.list es)) (he : isStarred e = false := by rfl) (he' : isStarred e' = false := by rfl) :
    Src c n names o ρ target (.Call (.Name "zip" fp) [e, e'] [] pos) (List.zipWith (fun a b => .tup [a, b]) ds es) :=
  ⟨by intro _ _; rfl, fun A env X s E Q hA hn hW W kq => by
    refine type_call hf (Evs.cons h (Evs.cons h' Evs.nil he') he) (noStars2 he he') hA hn hW W fun vs s' k' r' => ?_
    obtain ⟨v, u, rfl, rv, ru⟩ := Reps.two r'
    obtain ⟨l1, xs, ⟨hX1, p1, hl1, rs1⟩, rfl⟩ := rv.inv
    obtain ⟨l2, ys, ⟨hX2, p2, hl2, rs2⟩, rfl⟩ := ru.inv
    have lt1 : l1 < s'.heap.objs.size := by obtain ⟨m, e⟩ := p1; exact Heap.lt_size e
    have lt2 : l2 < s'.heap.objs.size := by obtain ⟨m, e⟩ := p2; exact Heap.lt_size e
    refine call_zip_2 p1.isList p2.isList fun h' hz hTI hTO hi1 hi2 hsz hk => ?_
    refine wpAny_pyIter_zip hz ?_
    have kz : Kp s' { s' with heap := h' } := ⟨.of hk, rfl, fun x => x⟩
    have st : ZSt s'.heap.objs.size l1 l2 xs ys 0 h' := ⟨hz, hTI, ⟨_, _, hTO⟩, hi1, hi2, p1.isList.at fun o e => hk _ o e, p2.isList.at fun o e => hk _ o e⟩
    clear hz hTI hTO hi1 hi2 hsz p1 p2 rv ru r' h
    have fr : ∀ j, s.heap.get? (s'.heap.objs.size + j) = none := fun j => by
      cases e : s.heap.get? (s'.heap.objs.size + j) with
      | none => rfl
      | some o' => exact absurd (k'.heap.lt e) (Nat.not_lt.mpr (Nat.le_add_right _ _))
    have fr' : ∀ j, s'.heap.get? (s'.heap.objs.size + j) = none := fun j => by
      cases e : s'.heap.get? (s'.heap.objs.size + j) with
      | none => rfl
      | some o' => exact absurd (Heap.lt_size e) (Nat.not_lt.mpr (Nat.le_add_right _ _))
    have nX : ∀ j, s'.heap.objs.size + j ∉ X := fun j hX => by obtain ⟨_, e⟩ := W.alive _ hX; exact ns_ ((fr j).symm.trans e)
    subst ht
    exact kq (s'.heap.objs.size + 4) (zfp s'.heap.objs.size l1 l2) (zwr s'.heap.objs.size) (List.zipWith .pair xs ys) (ZSt s'.heap.objs.size l1 l2 xs ys) { s' with heap := h' } (k'.trans kz) (zip_turns hA.handled lt1 lt2) st
      (zwr_all (fr 4) (fr 3) (fr 0) (fr 1)) (zfp_all (nX 4) (nX 2) (nX 3) (nX 0) (nX 1) hX1 hX2) st.noEnv
      (zip_reps rs1 rs2 kz.heap fun b hb => (List.mem_append.mp hb).elim (zwr_all (P := fun b => b ∈ X ∨ s'.heap.get? b = none) (.inr (fr' 4)) (.inr (fr' 3)) (.inr (fr' 0)) (.inr (fr' 1)) b) .inl)⟩
end
end
section
open PySem PySem.W PyProof.Rows
variable [Lo]
/-- the own list stands ahead of the caller's -/
noncomputable def XOK (o : Own) (X X₀ : List Addr) (s₀ : Shared) : Prop := match o with
  | none => X = X₀
  | some _ => ∃ a, X = a :: X₀ ∧ s₀.heap.get? a = none
/-- the own list's address -/
noncomputable def mine : Own → List Addr → List Addr
  | none, _ => []
  | some _, X => X.take 1
/-- nothing but a table or a frame stands there -/
noncomputable def Fr (h : Heap) (a : Addr) : Prop := ∀ o, h.get? a = some o → soft a o = true
theorem Fr.of {h : Heap} {a : Addr} (e : h.get? a = none) : Fr h a := fun o q => by rw [e] at q; exact ns_ q
theorem Fr.no {h : Heap} {a : Addr} {o : Obj} (f : Fr h a) (e : h.get? a = some o) (t : soft a o = false) : False := by rw [f o e] at t; exact tf_ t
/-- how a statement leaves the state; M: what it may turn -/
structure Nx (cl : List Str) (s₀ : Shared) (X₀ : List Addr) (env : Env) (M : List Addr) (s : Shared) (o' : Own) (ρ' : Vars) (X' : List Addr) (s' : Shared) : Prop where
  ok : EnvOK o' X' s'.heap env ρ'
  base : Base cl s₀ env s'
  xok : XOK o' X' X₀ s₀
  keep : ∀ b o, b ∉ M → b ≠ env.locals → (∀ x, env.cells.lookup x ≠ some b) → soft b o = false → s.heap.get? b = some o → s'.heap.get? b = some o
  xs : ∀ a ∈ mine o' X', a ∈ M ∨ Fr s.heap a
noncomputable def After (cl : List Str) (s₀ : Shared) (X₀ : List Addr) (env : Env) (M : List Addr) (s : Shared) (N : Own → Vars → Prop) (R : D → Prop) : Flow → Shared → Prop := fun f s' => match f with
  | .next => ∃ o' ρ' X', N o' ρ' ∧ Nx cl s₀ X₀ env M s o' ρ' X' s'
  | .ret v => ∃ d, R d ∧ Rep s'.heap X₀ v d ∧ Kp s₀ s'
  | _ => False
/-- what a body needs: the program's own objects stand wherever the frame stands -/
noncomputable def WfAt (c : Cfg) (cl : List Str) (s₀ : Shared) (env : Env) : Prop := ∀ (o : Own) (X : List Addr) (ρ : Vars) (s : Shared), EnvOK o X s.heap env ρ → Base cl s₀ env s → c.Wf s.heap
theorem WfAt.of {c : Cfg} {cl : List Str} {s₀ : Shared} {env : Env} (h : c.Wf s₀.heap) : WfAt c cl s₀ env := fun _ _ _ _ _ B => c.keeps _ _ B.kp.heap h
noncomputable def Ex1 (c : Cfg) (n : Nat) (names : Names) (cl : List Str) (o : Own) (ρ : Vars) (st : Stmt) (N : Own → Vars → Prop) (R : D → Prop) : Prop :=
  ∀ (A : Around) (env : Env) (X X₀ : List Addr) (s₀ s : Shared) (E : Value → Shared → Prop), OkA c n A → env.scope.names = names → WfAt c cl s₀ env → EnvOK o X s.heap env ρ → Base cl s₀ env s → XOK o X X₀ s₀ →
    wpAny (model c.prog c.w) A (exec st env) (After cl s₀ X₀ env (mine o X) s N R) E s
noncomputable def Ex (c : Cfg) (n : Nat) (names : Names) (cl : List Str) (o : Own) (ρ : Vars) (st : List Stmt) (N : Own → Vars → Prop) (R : D → Prop) : Prop :=
  ∀ (A : Around) (env : Env) (X X₀ : List Addr) (s₀ s : Shared) (E : Value → Shared → Prop), OkA c n A → env.scope.names = names → WfAt c cl s₀ env → EnvOK o X s.heap env ρ → Base cl s₀ env s → XOK o X X₀ s₀ →
    wpAny (model c.prog c.w) A (execs st env) (After cl s₀ X₀ env (mine o X) s N R) E s
theorem Nx.refl {cl : List Str} {s₀ s : Shared} {X₀ X : List Addr} {env : Env} {o : Own} {ρ : Vars} (W : EnvOK o X s.heap env ρ) (B : Base cl s₀ env s) (x : XOK o X X₀ s₀) : Nx cl s₀ X₀ env (mine o X) s o ρ X s := ⟨W, B, x, fun _ _ _ _ _ _ e => e, fun _ h => .inl h⟩
theorem mine_env {o : Own} {X : List Addr} {h : Heap} {env : Env} {ρ : Vars} (W : EnvOK o X h env ρ) {a : Addr} (ha : a ∈ mine o X) : a ≠ env.locals ∧ ∀ x, env.cells.lookup x ≠ some a := by
  have q := W.own
  have ns := W.ns
  have cs := W.cells
  clear W
  cases o with
  | none => exact absurd ha List.not_mem_nil
  | some yd =>
    obtain ⟨y, ds⟩ := yd
    obtain ⟨b, vs, X₀, e, _, _, _, p, _⟩ := q
    rw [e] at ha
    rw [List.mem_singleton.mp (show a ∈ [b] from ha)]
    refine ⟨fun e => ?_, fun x hx => ?_⟩
    · obtain ⟨m, hm⟩ := ns; exact plain_ne_ns p hm e
    · obtain ⟨v, hv⟩ := cs _ _ (mem_of_lookup hx); exact plain_ne_cell p hv rfl
theorem Nx.trans' {cl : List Str} {s₀ s s' s'' : Shared} {X₀ M X' X'' : List Addr} {env : Env} {o o' : Own} {ρ ρ' : Vars} (a : Nx cl s₀ X₀ env M s o ρ X' s') (b : Nx cl s₀ X₀ env (mine o X') s' o' ρ' X'' s'') : Nx cl s₀ X₀ env M s o' ρ' X'' s'' :=
  ⟨b.ok, b.base, b.xok, fun x o h1 h2 h3 t e => b.keep x o (fun h => by
      rcases a.xs x h with q | q
      · exact h1 q
      · exact q.no e t) h2 h3 t (a.keep x o h1 h2 h3 t e), fun y hy => by
    rcases b.xs y hy with q | q
    · exact a.xs y q
    · by_cases hX : y ∈ M
      · exact .inl hX
      · right
        intro ob e
        cases t : soft y ob with
        | true => rfl
        | false =>
          obtain ⟨n1, n2⟩ := mine_env b.ok hy
          exact (q.no (a.keep y ob hX n1 n2 t e) t).elim⟩
section
variable {c : Cfg} {n : Nat} {names : Names} {o : Own} {ρ : Vars} {cl : List Str} {A : Around} {E : Value → Shared → Prop} {s s₀ : Shared} {env : Env} {X X₀ : List Addr} {N : Own → Vars → Prop} {R : D → Prop}
theorem Ex.nil (h : N o ρ) : Ex c n names cl o ρ [] N R := fun _ _ _ _ _ _ _ _ _ _ W B x => wpAny_execs_nil ⟨o, ρ, _, h, .refl W B x⟩
theorem Ex.cons {st : Stmt} {rest : List Stmt} (h : Ex1 c n names cl o ρ st (fun o' ρ' => Ex c n names cl o' ρ' rest N R) R) : Ex c n names cl o ρ (st :: rest) N R := fun A env X X₀ s₀ s E hA hn hW W B x =>
  wpAny_execs_cons (then_ (h A env X X₀ s₀ s E hA hn hW W B x) fun f s' a => by
    cases f with
    | next =>
      obtain ⟨o', ρ', X', hN, nx⟩ := a
      refine then_ (hN A env X' X₀ s₀ s' E hA hn hW nx.ok nx.base nx.xok) fun f s'' a' => ?_
      cases f with
      | next => obtain ⟨o'', ρ'', X'', hN', nx'⟩ := a'; exact ⟨o'', ρ'', X'', hN', nx.trans' nx'⟩
      | ret v => exact a'
      | brk => exact a'
      | cont => exact a'
    | ret v => exact a
    | brk => exact a.elim
    | cont => exact a.elim)
theorem Ex.mono {st : List Stmt} {N' : Own → Vars → Prop} {R' : D → Prop} (h : Ex c n names cl o ρ st N R) (hN : ∀ o ρ, N o ρ → N' o ρ) (hR : ∀ d, R d → R' d) : Ex c n names cl o ρ st N' R' := fun A env X X₀ s₀ s E hA hn hW W B x =>
  then_ (h A env X X₀ s₀ s E hA hn hW W B x) fun f s' a => by
    cases f with
    | next => obtain ⟨o', ρ', X', hN', nx⟩ := a; exact ⟨o', ρ', X', hN _ _ hN', nx⟩
    | ret v => obtain ⟨d, hd, r⟩ := a; exact ⟨d, hR _ hd, r⟩
    | brk => exact a
    | cont => exact a
theorem Ex.sub {st : List Stmt} {ρ' : Vars} (k : ∀ x d, ρ'.lookup x = some d → ρ.lookup x = some d) (h : Ex c n names cl o ρ' st N R) : Ex c n names cl o ρ st N R := fun A env X X₀ s₀ s E hA hn hW W B x =>
  h A env X X₀ s₀ s E hA hn hW (W.sub k) B x
theorem XOK.sub {o : Own} {X : List Addr} (x : XOK o X X₀ s₀) : ∀ a ∈ X₀, a ∈ X := by
  intro a ha
  cases o with
  | none => obtain rfl : X = X₀ := x; exact ha
  | some p => obtain ⟨b, rfl, _⟩ := x; exact .tail _ ha
/-- a step that keeps all objects -/
theorem Nx.kp {s' : Shared} (W : EnvOK o X s.heap env ρ) (B : Base cl s₀ env s) (x : XOK o X X₀ s₀) (k : Kp s s') : Nx cl s₀ X₀ env (mine o X) s o ρ X s' := ⟨W.keeps k.heap, B.step k, x, fun b o _ _ _ t e => k.heap.at' b o e t, fun _ h => .inl h⟩
theorem Nx.store {x : Str} {d : D} {h' : Heap} {tk : Nat} {b : Addr} (W' : EnvOK o X h' env ((x, d) :: ρ)) (B : Base cl s₀ env s) (hx : x ∉ cl) (t : Turned env x s.heap h' b) (xo : XOK o X X₀ s₀) : Nx cl s₀ X₀ env (mine o X) s o ((x, d) :: ρ) X { s with heap := h', toks := tk } :=
  ⟨W', B.turn hx t, xo, fun b o _ h2 h3 e => t.keepEnv b o h2 h3 e, fun _ h => .inl h⟩
noncomputable def storable (names : Names) (cl : List Str) (x : Str) : Prop := (names.lookup x = some .local ∨ names.lookup x = some .cell) ∧ x ∉ cl
theorem stores_of (hn : env.scope.names = names) (W : EnvOK o X s.heap env ρ) {x : Str} (h : storable names cl x) : Stores env x := W.stores (by unfold Env.kindOf; rw [hn]; exact h.1)
noncomputable def noOwn (o : Own) (x : Str) : Prop := ∀ y ds, o = some (y, ds) → y ≠ x
theorem Ex1.assign {x : Str} {px pos : Pos} {e : Expr} {d : D} (h : Ev c n names o ρ e d) (hx : storable names cl x) (hN : N o ((x, d) :: ρ)) (ho : noOwn o x) (hs : ∀ env : Env, env.scope.names = names → env.scope.kind = .function → swapsWith e (some (.Name x px)) pos.line env = pure false) :
    Ex1 c n names cl o ρ (.Assign [.Name x px] e pos) N R := fun A env X X₀ s₀ s E hA hn hW W B xo => by
  refine wpAny_Assign_Name (then_ (h A env X s E hA hn (hW _ _ _ _ W B) W) fun v s₁ g => ?_) (hs env hn W.kind)
  obtain ⟨r, k⟩ := g
  have nx := Nx.kp W B xo k
  exact wpAny_store nx.ok (stores_of hn nx.ok hx) ho r fun h' tk b W' t => ⟨o, _, X, hN, nx.trans' (.store W' nx.base hx.2 t xo)⟩
theorem EnvOK.change {wr : List Addr} {h h' : Heap} (W : EnvOK none X h env ρ) (sk : SeqKeep X h h') (hm : mainGlobals ∉ wr) (hb : builtinsNs ∉ wr) (hL : env.locals ∉ wr) (hC : ∀ x a, (x, a) ∈ env.cells → a ∉ wr)
    (k : ∀ b o, b ∉ wr → h.get? b = some o → h'.get? b = some o) (al : Alive X h') : EnvOK none X h' env ρ := by
  obtain ⟨m, hm'⟩ := W.ns
  have at' : ∀ {a : Addr} {m : Str → Option Value}, h.Ns a m → a ∉ wr → h'.Ns a m := fun x hx => x.at' fun o e => k _ o hx e
  have ct : ∀ {a : Addr} {v : Option Value}, h.IsCell a v → a ∉ wr → h'.IsCell a v := fun ⟨o, e, d⟩ hx => ⟨o, k _ o hx e, d⟩
  refine ⟨W.kind, W.glob, W.built, ⟨m, at' hm' hL⟩, fun x a ha => ?_, W.apart, W.has, W.lg, W.lb, fun x d hx => ?_, al⟩
  · obtain ⟨v, hv⟩ := W.cells x a ha; exact ⟨v, ct hv (hC x a ha)⟩
  · obtain ⟨u, l, q⟩ := W.look x d hx
    refine ⟨u, ?_, q.keep sk⟩
    cases l with
    | loc a b c => exact .loc a (at' b hL) c
    | cell a b c => exact .cell a b (ct c (hC _ _ (mem_of_lookup b)))
    | free a b c d => exact .free a b c (ct d (hC _ _ (mem_of_lookup c)))
    | glob a b c => exact .glob a (at' b hm) c
    | built a b c d e => exact .built a (at' b hm) c (at' d hb) e
set_option maxHeartbeats 1000000 in
/-- a comprehension assigned to a local name on its own line -/
theorem Ex1.assignComp {x : Str} {px cpos pos : Pos} {elt target iter : Expr} {ifs : List Expr} {rest : List Comprehension} {scope : Scope} {src : List D} {keep : D → Bool} {outs : D → List D}
    (hs : compOK names scope = true) (hg' : ∀ t' i' f' a, rest[0]? = some ⟨t', i', f', a⟩ → a = 0) (hsrc : Src c n names none ρ target iter src) (hbn : ∀ x ∈ binder target, scope.names.lookup x ≠ some .free)
    (hlen : (gather keep outs src).length ≤ lim)
    (turn : ∀ d ∈ src, ∃ bs, Binds (relabelN names scope.names) (frees scope.names) target d bs ∧ Tests c n (relabelN names scope.names) (bs ++ capt ρ scope.names) ifs (keep d) ∧
      (keep d = true → Em c n (relabelN names scope.names) (frees scope.names) elt (⟨target, iter, ifs, 0⟩ :: rest) scope cpos 1 (bs ++ capt ρ scope.names) (outs d)))
    (hx : storable names cl x) (hN : N none ((x, .list (gather keep outs src)) :: ρ))
    (hsw : ∀ env : Env, env.scope.names = names → env.scope.kind = .function → swapsWith (.ListComp elt (⟨target, iter, ifs, 0⟩ :: rest) scope cpos) (some (.Name x px)) pos.line env = pure true) :
    Ex1 c n names cl none ρ (.Assign [.Name x px] (.ListComp elt (⟨target, iter, ifs, 0⟩ :: rest) scope cpos) pos) N R := fun A env X X₀ s₀ s E hA hn hW W B xo => by
  obtain ⟨⟨⟨hf, hu⟩, hk⟩, hd⟩ : ((freeOK names scope.names = true ∧ uniqNames scope.names = true) ∧ scope.kind = .function) ∧ (frees scope.names).Nodup := by simpa [compOK, noTwice] using hs
  have hWs := hW _ _ _ _ W B
  obtain ⟨cs, h1, h2, h3, h4, h5⟩ := closure_ok hs hn W
  rw [exec_Assign_Name_used _ _ _ _ (hsw env hn W.kind)]
  refine wpAny_bind (wpAny_standAt (wpAny_bind ?_))
  show wpAny _ A (do let _ ← comprehension (.ListComp elt (⟨target, iter, ifs, 0⟩ :: rest) scope cpos) scope env _ (newList []) false (eval iter env) (some (PySem.assign (.Name x px) env))) _ _ s
  refine wpAny_bind (then_ (wpAny_comprehension_free (Q := fun _ s' => After cl s₀ X₀ env [] s N R .next s') (use := some (PySem.assign (.Name x px) env)) rfl (hsrc.1 env) h1 hk (fun x hx hl => by obtain ⟨y, k⟩ := x; obtain rfl : k = .local := hl; exact uniq_at hu hx)
    (comp_core (R := fun acc C => compPost (model c.prog c.w) A E (some (PySem.assign (.Name x px) env)) (fun _ s' => After cl s₀ X₀ env [] s N R .next s') acc C) hs hg' hsrc hbn hlen turn hA hn hWs W h2 h3 h4 h5 fun D C m s' hm hCn hDC hq => ?_))
    fun _ s' hq => wpAny_pure (wpAny_pure hq))
  -- the store, with the comprehension's own names still there
  obtain ⟨r, k⟩ := hq s'.heap (Heap.SameBut.refl ..)
  have nx := Nx.kp W B xo k
  refine wpAny_assign_Name (wpAny_store nx.ok (stores_of hn nx.ok hx) (by intro _ _ e; exact ns_ e) r fun h₁ tk b W₁ t => ?_)
  have hCL : C ≠ env.locals := by rintro rfl; obtain ⟨m', hm'⟩ := W.ns; obtain ⟨ob, e⟩ := here_of_ns hm'; rw [hCn] at e; exact ns_ e
  have hCC : ∀ y a, (y, a) ∈ env.cells → a ≠ C := by rintro y a hy rfl; obtain ⟨v, hv⟩ := W.cells y a hy; obtain ⟨ob, e⟩ := here_of_cell hv; rw [hCn] at e; exact ns_ e
  have hmC : h₁.Ns C m := hm.sameBut t.same (by
    rintro rfl
    rcases t.place with q | q
    · exact hCL q
    · exact hCC _ _ (mem_of_lookup q) rfl)
  refine ⟨m, hmC, fun h₂ hs₂ => ?_⟩
  have nx₁ := nx.trans' (.store (tk := tk) W₁ nx.base hx.2 t xo)
  obtain ⟨⟨og, eg⟩, ⟨ob, eb⟩⟩ := c.gl _ hWs
  refine ⟨none, _, X, hN, ⟨?_, ⟨⟨nx₁.base.kp.heap.but fun a o e e' => (hs₂.2 a ?_).trans e', nx₁.base.kp.os, nx₁.base.kp.gens⟩, nx₁.base.loc, nx₁.base.cells⟩, nx₁.xok, fun a o g1 g2 g3 g4 e => (hs₂.2 a ?_).trans (nx₁.keep a o g1 g2 g3 g4 e), nx₁.xs⟩⟩
  · refine EnvOK.change (wr := [C]) W₁ (.sameBut hs₂ fun _ _ _ e => not_seq_of_ns hmC e) ?_ ?_ (by simpa using hCL.symm) (fun y a hy => by simpa using hCC y a hy) (fun a o ha e => (hs₂.2 a (by simpa using ha)).trans e) ?_
    · intro h; rw [List.mem_singleton.mp h, hCn] at eg; exact ns_ eg
    · intro h; rw [List.mem_singleton.mp h, hCn] at eb; exact ns_ eb
    · intro a ha
      obtain ⟨ob, e⟩ := W₁.alive a ha
      refine ⟨ob, (hs₂.2 a ?_).trans e⟩
      rintro rfl
      obtain ⟨ob', e'⟩ := W.alive _ ha; rw [hCn] at e'; exact ns_ e'
  · rintro rfl; obtain ⟨_, this⟩ := B.kp.heap.here e; rw [hCn] at this; exact ns_ this
  · rintro rfl; rw [hCn] at e; exact ns_ e
theorem Ex1.ret {e : Expr} {pos : Pos} {d : D} (h : Ev c n names o ρ e d) (hd : R d) : Ex1 c n names cl o ρ (.Return (some e) pos) N R := fun A env X X₀ s₀ s E hA hn hW W B xo =>
  wpAny_Return_some (then_ (h A env X s E hA hn (hW _ _ _ _ W B) W) fun v s₁ g => ⟨d, hd, g.1.less xo.sub, B.kp.trans g.2⟩)
theorem Ex1.if_ {t : Expr} {body orelse : List Stmt} {pos : Pos} {b : Bool} (h : Tr c n names o ρ t b) (h₁ : b = true → Ex c n names cl o ρ body N R) (h₂ : b = false → Ex c n names cl o ρ orelse N R) : Ex1 c n names cl o ρ (.If t body orelse pos) N R := fun A env X X₀ s₀ s E hA hn hW W B xo => by
  refine wpAny_If (then_ (h A env X s E hA hn (hW _ _ _ _ W B) W) fun b' s₁ g => ?_)
  obtain ⟨rfl, k⟩ := g
  have nx := Nx.kp W B xo k
  have fin : ∀ {f : Flow} {s' : Shared}, After cl s₀ X₀ env (mine o X) s₁ N R f s' → After cl s₀ X₀ env (mine o X) s N R f s' := fun {f s'} a => by
    cases f with
    | next => obtain ⟨o', ρ', X', hN', nx'⟩ := a; exact ⟨o', ρ', X', hN', nx.trans' nx'⟩
    | ret v => exact a
    | brk => exact a
    | cont => exact a
  cases b' with
  | true => simp only [if_true]; exact then_ (h₁ rfl A env X X₀ s₀ s₁ E hA hn hW nx.ok nx.base xo) fun f s' a => fin a
  | false => simp only [Bool.false_eq_true, if_false]; exact then_ (h₂ rfl A env X X₀ s₀ s₁ E hA hn hW nx.ok nx.base xo) fun f s' a => fin a
theorem Ex1.assert {t : Expr} {pos : Pos} (h : Tr c n names o ρ t true) (hN : N o ρ) : Ex1 c n names cl o ρ (.Assert t none pos) N R := fun A env X X₀ s₀ s E hA hn hW W B xo =>
  wpAny_Assert_holds (then_ (h A env X s E hA hn (hW _ _ _ _ W B) W) fun b s₁ g => ⟨g.1, o, ρ, X, hN, .kp W B xo g.2⟩)
/-- two names at once -/
theorem Ex1.assign2 {x y : Str} {px py tpos pos : Pos} {k : Nat} {e : Expr} {d₁ d₂ : D} (h : Ev c n names o ρ e (.tup [d₁, d₂])) (hx : storable names cl x) (hy : storable names cl y) (hN : N o ((y, d₂) :: (x, d₁) :: ρ)) (hox : noOwn o x) (hoy : noOwn o y)
    (hs : swapsWithSole [.Tuple [.Name x px, .Name y py] k tpos] e pos.line = fun _ => pure false := by rfl) (hw : ∀ env : Env, env.scope.names = names → env.scope.kind = .function → swappedStores [.Tuple [.Name x px, .Name y py] k tpos] e env = pure none) :
    Ex1 c n names cl o ρ (.Assign [.Tuple [.Name x px, .Name y py] k tpos] e pos) N R := fun A env X X₀ s₀ s E hA hn hW W B xo => by
  refine Assign_Tuple (then_ (h A env X s E hA hn (hW _ _ _ _ W B) W) fun v s₁ g => ?_) (by rw [hs]) (hw env hn W.kind)
  obtain ⟨r, kp⟩ := g
  have nx := Nx.kp W B xo kp
  have bb : Binds names cl (.Tuple [.Name x px, .Name y py] k tpos) (.tup [d₁, d₂]) [(y, d₂), (x, d₁)] := .pair x y px py k tpos d₁ d₂ hx.1 hx.2 hy.1 hy.2
  refine then_ (bb.run hA.handled hn nx.ok nx.base (.rep r) (by intro _ _ e; cases e) (fun z ds e hz => ?_)) fun _ s₂ g => ?_
  · rcases List.mem_cons.mp hz with q | hz
    · exact hox z ds e q
    · exact hoy z ds e (List.mem_singleton.mp hz)
  · obtain ⟨W₂, B₂, k₂⟩ := g
    exact ⟨o, _, X, hN, nx.trans' ⟨W₂, B₂, xo, fun b o _ h2 h3 e => k₂ b o h2 h3 e, fun _ h => .inl h⟩⟩
end
end
section
open PySem PySem.W PyProof.Rows
variable [Lo]
inductive Atom : D → Prop
  | int (i : Int) : Atom (.int i)
  | str (x : Str) : Atom (.str x)
  | bool (b : Bool) : Atom (.bool b)
  | flt (k : Int) : Atom (.flt k)
theorem Atom.rep {h : Heap} {X Y : List Addr} {v : Value} {d : D} (a : Atom d) (r : Rep h X v d) : Rep h Y v d := by
  cases a with
  | int i => obtain ⟨_, rfl⟩ := r.inv; exact .int _ _
  | str x => obtain ⟨t, hx, rfl⟩ := r.inv; exact .str _ _ hx
  | bool b => obtain rfl := r.inv; exact .bool _
  | flt k => obtain ⟨x, t, h, rfl⟩ := r.inv; exact .flt _ _ _ h
section
variable {c : Cfg} {n : Nat} {names : Names} {o : Own} {ρ : Vars} {cl : List Str} {A : Around} {E : Value → Shared → Prop} {s s₀ : Shared} {env : Env} {X X₀ : List Addr} {N : Own → Vars → Prop} {R : D → Prop}
/-- the own list as any other -/
theorem EnvOK.release {y : Str} {ds : List D} {h : Heap} (W : EnvOK (some (y, ds)) X h env ρ) : ∃ a X₁, X = a :: X₁ ∧ EnvOK none X₁ h env ((y, .list ds) :: ρ) := by
  obtain ⟨a, vs, X₁, rfl, h1, h2, l, p, hl, r⟩ := W.own
  refine ⟨a, X₁, rfl, W.kind, W.glob, W.built, W.ns, W.cells, W.apart, W.has, W.lg, W.lb, fun x d e => ?_, h2⟩
  rw [List.lookup_cons] at e
  cases hb : x == y with
  | true =>
    rw [hb] at e; obtain rfl := Option.some.inj e
    rw [beq_iff_eq.mp hb]
    exact ⟨_, l, .list h1 p hl (r.less fun _ h => .tail _ h)⟩
  | false =>
    rw [hb] at e
    obtain ⟨v, l, q⟩ := W.look x d e
    exact ⟨v, l, q.less fun _ h => .tail _ h⟩
theorem Ev.own {y : Str} {ds : List D} {e : Expr} {d : D} (a : Atom d) (h : Ev c n names none ((y, .list ds) :: ρ) e d) : Ev c n names (some (y, ds)) ρ e d := fun A env X s E hA hn hW W => by
  obtain ⟨a', X₁, rfl, W'⟩ := W.release
  exact then_ (h A env X₁ s E hA hn hW W') fun v s' g => ⟨a.rep g.1, g.2⟩
theorem Tr.own {y : Str} {ds : List D} {e : Expr} {b : Bool} (h : Tr c n names none ((y, .list ds) :: ρ) e b) : Tr c n names (some (y, ds)) ρ e b := fun A env X s E hA hn hW W => by
  obtain ⟨a', X₁, rfl, W'⟩ := W.release
  exact h A env X₁ s E hA hn hW W'
theorem Ex.release {y : Str} {ds : List D} {st : List Stmt} (h : Ex c n names cl none ((y, .list ds) :: ρ) st N R) : Ex c n names cl (some (y, ds)) ρ st N R := fun A env X X₀ s₀ s E hA hn hW W B xo => by
  obtain ⟨a', X₁, rfl, W'⟩ := W.release
  obtain ⟨a, e, ha⟩ := xo
  obtain ⟨rfl, rfl⟩ : a' = a ∧ X₁ = X₀ := by simpa using e
  refine then_ (h A env X₁ X₁ s₀ s E hA hn hW W' B rfl) fun f s' a => ?_
  cases f with
  | next =>
    obtain ⟨o', ρ', X', hN, nx⟩ := a
    exact ⟨o', ρ', X', hN, nx.ok, nx.base, nx.xok, fun b o h1 h2 h3 e => nx.keep b o (fun h => by cases h) h2 h3 e, fun b hb => (nx.xs b hb).imp (fun h => by cases h) id⟩
  | ret v => exact a
  | brk => exact a
  | cont => exact a
/-- an expression that makes a list -/
noncomputable def EvNew (c : Cfg) (n : Nat) (names : Names) (ρ : Vars) (e : Expr) (ds : List D) : Prop :=
  ∀ (A : Around) (env : Env) (X : List Addr) (s : Shared) (E : Value → Shared → Prop), OkA c n A → env.scope.names = names → c.Wf s.heap → EnvOK none X s.heap env ρ →
    wpAny (model c.prog c.w) A (eval e env) (fun v s' => ∃ a vs, v = .ref a ∧ s.heap.get? a = none ∧ Plain s'.heap "list" a vs ∧ ds.length ≤ lim ∧ Reps s'.heap (a :: X) vs ds ∧ Kp s s') E s
theorem EvNew.display {es : List Expr} {ds : List D} {pos : Pos} (h : Evs c n names none ρ es ds) (hl : ds.length ≤ lim) : EvNew c n names ρ (.List es pos) ds := fun A env X s E hA hn hW W => by
  refine wpAny_List (then_ (h A env X s E pos hA hn hW W) fun vs s₁ g => ⟨by rw [g.1.length]; exact lim_sizeLine hl, _, vs, rfl, ?_, ⟨0, Heap.get?_push_size _ rfl⟩, hl, ?_, g.2.trans ⟨.of fun _ _ e => Heap.get?_push_of_some _ e, rfl, fun x => x⟩⟩)
  · cases e : s.heap.get? s₁.heap.objs.size with
    | none => rfl
    | some o' => exact absurd (g.2.heap.lt e) (Nat.lt_irrefl _)
  · refine g.1.more (.of fun _ _ e => Heap.get?_push_of_some _ e) fun a ha => ?_
    rcases List.mem_cons.mp ha with rfl | ha
    · right
      cases e : s₁.heap.get? s₁.heap.objs.size with
      | none => rfl
      | some o' => exact absurd (Heap.lt_size e) (Nat.lt_irrefl _)
    · exact .inl ha
theorem Ex1.assignNew {x : Str} {px pos : Pos} {e : Expr} {ds : List D} (h : EvNew c n names ρ e ds) (hx : storable names cl x) (hxρ : ρ.lookup x = none) (hN : N (some (x, ds)) ρ) (hs : ∀ env : Env, swapsWith e (some (.Name x px)) pos.line env = pure false := by intro _; rfl) :
    Ex1 c n names cl none ρ (.Assign [.Name x px] e pos) N R := fun A env X X₀ s₀ s E hA hn hW W B xo => by
  obtain rfl : X = X₀ := xo
  refine wpAny_Assign_Name (then_ (h A env X s E hA hn (hW _ _ _ _ W B) W) fun v s₁ g => ?_) (hs env)
  obtain ⟨a, vs, rfl, ha, p, hl, r, k⟩ := g
  have W₁ : EnvOK none (a :: X) s₁.heap env ρ := by
    have w := W.keeps k.heap
    have m : ∀ b ∈ a :: X, b ∈ X ∨ s.heap.get? b = none := fun b hb => by
      rcases List.mem_cons.mp hb with rfl | hb
      · exact .inr ha
      · exact .inl hb
    refine ⟨w.kind, w.glob, w.built, w.ns, w.cells, w.apart, w.has, w.lg, w.lb, fun x d e => ?_, fun b hb => ?_⟩
    · obtain ⟨v, l, q⟩ := W.look x d e; exact ⟨v, l.keeps k.heap, q.more k.heap m⟩
    · rcases List.mem_cons.mp hb with rfl | hb
      · obtain ⟨m, e⟩ := p; exact ⟨_, e⟩
      · exact W.alive.keeps k.heap b hb
  refine wpAny_store W₁ (stores_of hn W₁ hx) (by intro _ _ e; exact ns_ e) (.val (.ref a)) fun h' tk b W₂ t => ?_
  have B₂ := (B.step k).turn (tk := tk) hx.2 t
  have ha0 : s₀.heap.get? a = none := by
    cases e : s₀.heap.get? a with
    | none => rfl
    | some o => obtain ⟨_, this⟩ := B.kp.heap.here e; rw [ha] at this; exact ns_ this
  have sk : SeqKeep (a :: X) s₁.heap h' := t.seqKeep W₁
  refine ⟨some (x, ds), ρ, a :: X, hN, ⟨⟨W₂.kind, W₂.glob, W₂.built, W₂.ns, W₂.cells, W₂.apart, W₂.has, W₂.lg, W₂.lb, fun y d e => ?_, ?_⟩, B₂, ⟨a, rfl, ha0⟩, fun b o h1 h2 h3 h4 e => t.keepEnv (tk := tk) b o h2 h3 h4 (k.heap.at' b o e h4), fun b hb => ?_⟩⟩
  · refine W₂.look y d ?_
    rw [List.lookup_cons]
    cases hb : y == x with
    | true => rw [beq_iff_eq.mp hb, hxρ] at e; exact ns_ e
    | false => exact e
  · obtain ⟨v, l, q⟩ := W₂.look x (.val (.ref a)) (by rw [List.lookup_cons]; simp)
    obtain rfl := q.inv
    refine ⟨a, vs, X, rfl, fun h => ?_, fun b hb => W₂.alive b (.tail _ hb), l, p.keep (X := []) (t.seqKeep W₁) (by simp), hl, r.keep sk⟩
    obtain ⟨ob, e⟩ := W.alive a h; rw [ha] at e; exact ns_ e
  · rw [List.mem_singleton.mp hb]; exact .inr (.of ha)
/-- a change of the own list -/
theorem own_change {x : Str} {ds ds' : List D} {a : Addr} {vs vs' : List Value} {h' : Heap} {X₁ : List Addr} (W : EnvOK (some (x, ds)) (a :: X₁) s.heap env ρ) (l : Look s.heap env x (.ref a)) (p : Plain s.heap "list" a vs) (B : Base cl s₀ env s) (ha0 : s₀.heap.get? a = none) (hX : a ∉ X₁)
    (p' : Plain h' "list" a vs') (hs : Heap.SameBut a s.heap h') (hl : ds'.length ≤ lim) (r : Reps s.heap (a :: X₁) vs' ds') : Nx cl s₀ X₁ env [a] s (some (x, ds')) ρ (a :: X₁) { s with heap := h' } := by
  have sk : SeqKeep (a :: X₁) s.heap h' := fun b T us m hb e => (hs.2 b (by rintro rfl; exact hb (.head _))).trans e
  obtain ⟨m₁, e₁⟩ := p
  have look : ∀ {y v}, Look s.heap env y v → Look h' env y v := fun {y v} l => by
    cases l with
    | loc a b c => exact .loc a (b.sameBut hs (by rintro rfl; exact not_seq_of_ns b e₁)) c
    | cell a b c => exact .cell a b (c.sameBut hs (by rintro rfl; exact not_seq_of_cell c e₁))
    | free a b c d => exact .free a b c (d.sameBut hs (by rintro rfl; exact not_seq_of_cell d e₁))
    | glob a b c => exact .glob a (b.sameBut hs (by rintro e; rw [← e] at e₁; exact not_seq_of_ns b e₁)) c
    | built a b c d e => exact .built a (b.sameBut hs (by rintro e; rw [← e] at e₁; exact not_seq_of_ns b e₁)) c (d.sameBut hs (by rintro e; rw [← e] at e₁; exact not_seq_of_ns d e₁)) e
  have here : ∀ b, Here s.heap b → Here h' b := here_sameBut hs (by obtain ⟨m, e⟩ := p'; exact ⟨_, e⟩)
  refine ⟨⟨W.kind, W.glob, W.built, ?_, fun y b hb => ?_, W.apart, W.has, W.lg, W.lb, fun y d e => ?_, ⟨a, vs', X₁, rfl, hX, fun b hb => here b (W.alive b (.tail _ hb)), look l, p', hl, r.keep sk⟩⟩, ⟨⟨B.kp.heap.but fun b o e e' => ?_, B.kp.os, B.kp.gens⟩, B.loc, B.cells⟩, ⟨a, rfl, ha0⟩, fun b o h1 _ _ _ e => (hs.2 b (by rintro rfl; exact h1 (.head _))).trans e, fun _ h => .inl h⟩
  · obtain ⟨m, hm⟩ := W.ns; exact ⟨m, hm.sameBut hs (by rintro e; rw [← e] at e₁; exact not_seq_of_ns hm e₁)⟩
  · obtain ⟨v, hv⟩ := W.cells y b hb; exact ⟨v, hv.sameBut hs (by rintro rfl; exact not_seq_of_cell hv e₁)⟩
  · obtain ⟨v, l, q⟩ := W.look y d e; exact ⟨v, look l, q.keep sk⟩
  · refine (hs.2 b ?_).trans e'
    rintro rfl; rw [ha0] at e; exact ns_ e
/-- the own list's name -/
theorem own_name {x : Str} {xp : Pos} {ds : List D} {a : Addr} {X₁ : List Addr} (hd : (x == ("__debug__" : Str)) = false) (W : EnvOK (some (x, ds)) (a :: X₁) s.heap env ρ) {Q : Value → Shared → Prop}
    (h : ∀ vs, Look s.heap env x (.ref a) → Plain s.heap "list" a vs → ds.length ≤ lim → Reps s.heap (a :: X₁) vs ds → a ∉ X₁ → Q (.ref a) s) : wpAny (model c.prog c.w) A (eval (.Name x xp) env) Q E s := by
  obtain ⟨a', vs, X', e, h1, h2, l, p, hl, r⟩ := W.own
  obtain ⟨rfl, rfl⟩ : a = a' ∧ X₁ = X' := by simpa using e
  exact wpAny_Name (wpAny_loadName_look W.kind W.glob W.built l (h vs l p hl r h1)) hd
theorem Ex1.append {x : Str} {xp apos cpos pos : Pos} {e : Expr} {ds : List D} {d : D} (h : Ev c n names (some (x, ds)) ρ e d) (hl : ds.length + 1 ≤ lim) (hN : N (some (x, ds ++ [d])) ρ) (he : isStarred e = false := by rfl) (hd : (x == ("__debug__" : Str)) = false := by decide) (hline : (apos.endLine == cpos.line) = true := by rfl)
    (hi : ∀ env : Env, env.scope.kind = .function → interactive env = false := by intro env h; simp [interactive, h]) :
    Ex1 c n names cl (some (x, ds)) ρ (.Expr (.Call (.Attribute (.Name x xp) "append" apos) [e] [] cpos) pos) N R := fun A env X X₀ s₀ s E hA hn hW W B xo => by
  obtain ⟨a, rfl, ha0⟩ := xo
  refine wpAny_Expr_any ?_ (hi env W.kind) (by rfl)
  have hns : noStars [e] = true := by simp [noStars, he]
  refine wpAny_Call_method_lateS rfl ?_ hline (own_name hd W fun vs l p hdl r hX => ?_)
  · have : ((backTo cpos (starEach [e] env)).all fun x => !x.1) = true := by
      rw [List.all_eq_true]; intro x hx; rw [noStars_each hns env cpos x hx]; rfl
    rw [this]; rfl
  · refine ⟨"list", _, F.plainAttrs_list, F.slot_list_append, F.type_list_append, p.isList.typeIs, fun b hb => by cases hb; obtain ⟨m, e⟩ := p; exact ⟨_, e, rfl⟩, ?_⟩
    have hEs : Evs c n names (some (x, ds)) ρ [e] [d] := Evs.cons h Evs.nil he
    refine Calls.callWith_builtin (any_false_of (noStars_each hns env cpos)) (evalArgs_plain' (kws := []) (noStars_each hns env cpos) rfl (then_ (hEs A env (a :: X₀) s E cpos hA hn (hW _ _ _ _ W B) W) fun us s₁ g => wpAny_evalAll_nil ?_))
    obtain ⟨v, rfl, rv⟩ := Reps.one g.1
    have k := g.2
    have p₁ := p.keeps k.heap
    have nx : Nx cl s₀ X₀ env [a] s (some (x, ds)) ρ (a :: X₀) s₁ := Nx.kp W B ⟨a, rfl, ha0⟩ k
    refine wpAny_list_append_plain (hsz := by rw [List.size_toArray, r.length]; exact lim_sizeLine (by omega)) p₁.plainList fun h' hl' hs' => ?_
    have p' : Plain h' "list" a (vs ++ [v]) := by obtain ⟨m, e⟩ := hl'; exact ⟨m, by simpa using e⟩
    exact ⟨some (x, ds ++ [d]), ρ, a :: X₀, hN, nx.trans' (own_change nx.ok (l.keeps k.heap) p₁ nx.base ha0 hX p' hs' (by simpa using hl) ((r.kp k).snoc rv))⟩
theorem Ex1.setItem {x : Str} {xp spos pos : Pos} {ie e : Expr} {ds : List D} {i : Int} {d : D} (h : Ev c n names (some (x, ds)) ρ e d) (hi : Ev c n names (some (x, ds)) ρ ie (.int i)) (h0 : 0 ≤ i) (h1 : i < ds.length) (hN : N (some (x, ds.set i.toNat d)) ρ) (hd : (x == ("__debug__" : Str)) = false := by decide)
    (hs : ∀ env : Env, swapsWith e (some (.Subscript (.Name x xp) ie spos)) pos.line env = pure false := by intro _; rfl) :
    Ex1 c n names cl (some (x, ds)) ρ (.Assign [.Subscript (.Name x xp) ie spos] e pos) N R := fun A env X X₀ s₀ s E hA hn hW W B xo => by
  obtain ⟨a, rfl, ha0⟩ := xo
  have hWs := hW _ _ _ _ W B
  refine wpAny_Assign_Subscript (then_ (h A env _ s E hA hn hWs W) fun v s₁ g => ?_) (hs env)
  obtain ⟨rv, k⟩ := g
  have nx₁ : Nx cl s₀ X₀ env [a] s (some (x, ds)) ρ (a :: X₀) s₁ := Nx.kp W B ⟨a, rfl, ha0⟩ k
  refine own_name hd nx₁.ok fun vs l p hdl r hX => ?_
  refine then_ (hi A env _ s₁ E hA hn (c.keeps _ _ k.heap hWs) nx₁.ok) fun iv s₂ g₂ => ?_
  obtain ⟨ri, k₂⟩ := g₂
  obtain ⟨t, rfl⟩ := ri.inv
  have nx₂ : Nx cl s₀ X₀ env [a] s₁ (some (x, ds)) ρ (a :: X₀) s₂ := Nx.kp nx₁.ok nx₁.base ⟨a, rfl, ha0⟩ k₂
  have p₂ := p.keeps k₂.heap
  obtain ⟨m, e⟩ := p₂
  refine PySem.W.ki_setAt e h0 (by simp [lim] at hdl; exact z417 h1 hdl) (by rw [List.size_toArray, r.length]; exact h1) ?_
  have hs' : Heap.SameBut a s₂.heap (s₂.heap.update a (Obj.mapSeq (·.setIfInBounds i.toNat v))) := Heap.SameBut.update ..
  have p' : Plain (s₂.heap.update a (Obj.mapSeq (·.setIfInBounds i.toNat v))) "list" a (vs.set i.toNat v) := by
    refine ⟨m, ?_⟩
    rw [Heap.get?_update_self _ e rfl]
    simp [Obj.mapSeq]
  have p₂ : Plain s₂.heap "list" a vs := ⟨m, e⟩
  exact ⟨some (x, ds.set i.toNat d), ρ, a :: X₀, hN, (nx₁.trans' nx₂).trans' (own_change nx₂.ok (l.keeps k₂.heap) p₂ nx₂.base ha0 hX p' hs' (by simpa using hdl) ((r.kp k₂).set _ (rv.kp k₂)))⟩
theorem Ex1.delItem {x : Str} {xp spos pos : Pos} {ie : Expr} {ds : List D} {i : Int} {k : Nat} (hi : Ev c n names (some (x, ds)) ρ ie (.int i)) (hfit : Builtin.List.listFitsIndex i = true) (hk : seqIndex? i ds.length = some k) (hN : N (some (x, ds.eraseIdx k)) ρ) (hd : (x == ("__debug__" : Str)) = false := by decide) :
    Ex1 c n names cl (some (x, ds)) ρ (.Delete [.Subscript (.Name x xp) ie spos] pos) N R := fun A env X X₀ s₀ s E hA hn hW W B xo => by
  obtain ⟨a, rfl, ha0⟩ := xo
  have hWs := hW _ _ _ _ W B
  refine wpAny_Delete (wpAny_deleteEach_cons (wpAny_delete_Subscript (own_name hd W fun vs l p hdl r hX => ?_)))
  refine then_ (hi A env _ s E hA hn hWs W) fun iv s₂ g₂ => ?_
  obtain ⟨ri, k₂⟩ := g₂
  obtain ⟨t, rfl⟩ := ri.inv
  have nx₂ : Nx cl s₀ X₀ env [a] s (some (x, ds)) ρ (a :: X₀) s₂ := Nx.kp W B ⟨a, rfl, ha0⟩ k₂
  have p₂ := p.keeps k₂.heap
  refine wpAny_delItem_plain p₂.plainList hfit (by rw [List.size_toArray, r.length]; exact hk) (fun h' hl' hs' => wpAny_deleteEach_nil ?_) (by rw [List.size_toArray, r.length]; exact lim_sizeLine hdl)
  have p' : Plain h' "list" a (vs.eraseIdx k) := by
    obtain ⟨m, e⟩ := hl'
    refine ⟨m, ?_⟩
    have : vs.toArray.eraseIdxIfInBounds k = (vs.eraseIdx k).toArray := by simp
    rw [this] at e; exact e
  exact ⟨some (x, ds.eraseIdx k), ρ, a :: X₀, hN, nx₂.trans' (own_change nx₂.ok (l.keeps k₂.heap) p₂ nx₂.base ha0 hX p' hs' (Nat.le_trans (List.length_eraseIdx_le ..) hdl) ((r.kp k₂).erase _))⟩
end
end
section
open PySem PySem.W PyProof.Rows
variable [Lo]
section
variable {c : Cfg} {n : Nat} {names : Names} {o : Own} {ρ : Vars} {cl : List Str} {A : Around} {E : Value → Shared → Prop} {s s₀ : Shared} {env : Env} {X X₀ : List Addr} {N : Own → Vars → Prop} {R : D → Prop}
theorem XOK.eq (xo : XOK o X X₀ s₀) : X = mine o X ++ X₀ := by
  cases o with
  | none => exact xo
  | some p => obtain ⟨a, rfl, _⟩ := xo; rfl
theorem XOK.re (xo : XOK o X X₀ s₀) (Y₀ : List Addr) : XOK o (mine o X ++ Y₀) Y₀ s₀ ∧ mine o (mine o X ++ Y₀) = mine o X := by
  cases o with
  | none => exact ⟨rfl, rfl⟩
  | some p => obtain ⟨a, rfl, h⟩ := xo; exact ⟨⟨a, rfl, h⟩, rfl⟩
theorem mine_sub {a : Addr} (ha : a ∈ mine o X) : a ∈ X := by
  cases o with
  | none => exact absurd ha List.not_mem_nil
  | some _ => exact List.mem_of_mem_take ha
theorem mine_not {h : Heap} (W : EnvOK o X h env ρ) (xo : XOK o X X₀ s₀) {a : Addr} (ha : a ∈ mine o X) : a ∉ X₀ := by
  have w := W.own
  cases o with
  | none => exact absurd ha List.not_mem_nil
  | some p =>
    obtain ⟨b, rfl, _⟩ := xo
    obtain ⟨a', vs, X₁, e, h1, _⟩ := w
    injection e with e1 e2
    rw [List.mem_singleton.mp ha, e1, e2]; exact h1
/-- the frame over other rows of places -/
theorem EnvOK.re {Y₀ : List Addr} {h h' : Heap} (W : EnvOK o X h env ρ) (xo : XOK o X X₀ s₀) (kl : ∀ y v, Look h env y v → Look h' env y v) (hp : ∀ a T vs, a ∉ X → Plain h T a vs → a ∉ mine o X ++ Y₀ ∧ Plain h' T a vs) (kn : ∃ m, h'.Ns env.locals m)
    (kc : ∀ x a v, (x, a) ∈ env.cells → h.IsCell a v → h'.IsCell a v) (al : Alive Y₀ h') (km : ∀ a ∈ mine o X, a ∉ Y₀ ∧ ∀ T vs, Plain h T a vs → Plain h' T a vs) : EnvOK o (mine o X ++ Y₀) h' env ρ := by
  refine ⟨W.kind, W.glob, W.built, kn, fun x a ha => (W.cells x a ha).elim fun v hv => ⟨v, kc x a v ha hv⟩, W.apart, W.has, W.lg, W.lb, fun x d e => (W.look x d e).elim fun v q => ⟨v, kl _ _ q.1, q.2.map hp⟩, ?_⟩
  have w := W.own
  clear W kn kc
  cases o with
  | none => exact al
  | some p =>
    obtain ⟨y, ds⟩ := p
    obtain ⟨a, rfl, _⟩ := xo
    obtain ⟨a', vs, X₁, e, _, _, l, p, hl, r⟩ := w
    injection e with e1 e2
    rw [← e1] at l p
    exact ⟨a, vs, Y₀, rfl, (km a (.head _)).1, al, kl _ _ l, (km a (.head _)).2 _ _ p, hl, r.map hp⟩
/-- one more row of places that nothing speaks of -/
theorem EnvOK.wider {wr : List Addr} {h' : Heap} (W : EnvOK o X s.heap env ρ) (xo : XOK o X X₀ s₀) (k : Keep s.heap h') (hwr : ∀ b ∈ wr, s.heap.get? b = none) (al : ∀ b ∈ wr, Here h' b) :
    ∃ X', EnvOK o X' h' env ρ ∧ XOK o X' (wr ++ X₀) s₀ ∧ mine o X' = mine o X := by
  have dead : ∀ a, Here s.heap a → a ∉ wr := fun a ⟨o, e⟩ h => ns_ ((hwr a h).symm.trans e)
  refine ⟨mine o X ++ (wr ++ X₀), W.re xo (fun _ _ l => l.keeps k) (fun a T vs ha p => ⟨fun h => ?_, p.keeps k⟩) (W.ns.elim fun m n => ⟨m, k.ns n⟩) (fun _ _ _ _ q => k.cell q) (fun a ha => (List.mem_append.mp ha).elim (al a) fun h => W.alive.keeps k a (xo.sub a h)) fun a ha => ⟨fun h => ?_, fun _ _ p => p.keeps k⟩, xo.re _⟩
  · rcases List.mem_append.mp h with h | h
    · exact ha (mine_sub h)
    · exact (List.mem_append.mp h).elim (dead a (by obtain ⟨n, e⟩ := p; exact ⟨_, e⟩)) fun h => ha (xo.sub a h)
  · exact (List.mem_append.mp h).elim (dead a (W.alive a (mine_sub ha))) (mine_not W xo ha)
/-- a change of places that nothing speaks of -/
structure WrOK (env : Env) (wr : List Addr) (h h' : Heap) : Prop where
  hm : mainGlobals ∉ wr
  hb : builtinsNs ∉ wr
  hL : env.locals ∉ wr
  hC : ∀ x a, (x, a) ∈ env.cells → a ∉ wr
  k : ∀ b o, b ∉ wr → h.get? b = some o → h'.get? b = some o
theorem WrOK.ns {wr : List Addr} {h h' : Heap} (K : WrOK env wr h h') {a : Addr} {m : Str → Option Value} (hp : a = env.locals ∨ a = mainGlobals ∨ a = builtinsNs) (n : h.Ns a m) : h'.Ns a m := by
  refine n.at' fun o e => K.k _ o ?_ e
  rcases hp with e | e | e
  · rw [e]; exact K.hL
  · rw [e]; exact K.hm
  · rw [e]; exact K.hb
theorem WrOK.cell {wr : List Addr} {h h' : Heap} (K : WrOK env wr h h') (x : Str) (a : Addr) (v : Option Value) (ha : (x, a) ∈ env.cells) (q : h.IsCell a v) : h'.IsCell a v := by
  obtain ⟨o, e, d⟩ := q; exact ⟨o, K.k _ o (K.hC x a ha) e, d⟩
theorem EnvOK.reWr {wr Y₀ : List Addr} {h h' : Heap} {X₁ : List Addr} (K : WrOK env wr h h') (W : EnvOK o X h env ρ) (xo : XOK o X (wr ++ X₁) s₀) (hown : ∀ a ∈ mine o X, a ∉ wr) (hY : ∀ a ∈ Y₀, a ∈ wr ++ X₁) (al : Alive Y₀ h') : EnvOK o (mine o X ++ Y₀) h' env ρ := by
  refine W.re xo (fun _ _ l => l.map (fun _ m hp n => ⟨m, K.ns hp n, rfl⟩) fun c v hc q => K.cell _ c v (mem_of_lookup hc) q) (fun a T vs ha p => ⟨fun h => ha ((List.mem_append.mp h).elim mine_sub fun h => xo.sub a (hY a h)), ?_⟩) (W.ns.elim fun m n => ⟨m, K.ns (.inl rfl) n⟩) K.cell al fun a ha => ⟨fun h => mine_not W xo ha (hY a h), fun T vs p => ?_⟩
  · obtain ⟨n, e⟩ := p; exact ⟨n, K.k a _ (fun q => ha (xo.sub a (List.mem_append_left _ q))) e⟩
  · obtain ⟨n, e⟩ := p; exact ⟨n, K.k a _ (hown a ha) e⟩
/-- the same data elsewhere, later: the sequences outside X stand -/
theorem Plain.move {h h' : Heap} {X Y : List Addr} (k : SeqKeep X h h') (hn : ∀ a ∈ Y, a ∈ X ∨ Fr h a) (a : Addr) (T : String) (vs : List Value) (ha : a ∉ X) (p : Plain h T a vs) : a ∉ Y ∧ Plain h' T a vs :=
  ⟨fun hy => (hn _ hy).elim ha fun q => by obtain ⟨n, e⟩ := p; exact q.no e rfl, p.keep k ha⟩
theorem Fr.mine {h h' : Heap} {M : List Addr} {a : Addr} (W : EnvOK o X h' env ρ) (ha : a ∈ mine o X) (k : ∀ ob, a ≠ env.locals → (∀ x, env.cells.lookup x ≠ some a) → soft a ob = false → h.get? a = some ob → a ∈ M ∨ False) : a ∈ M ∨ Fr h a := by
  by_cases hM : a ∈ M
  · exact .inl hM
  · refine .inr fun ob e => ?_
    cases t : soft a ob with
    | true => rfl
    | false =>
      have q := mine_env W ha
      exact ((k ob q.1 q.2 t e).elim hM id).elim
theorem ShRep.map {h h' : Heap} {X Y : List Addr} (hp : ∀ a T vs, a ∉ X → Plain h T a vs → a ∉ Y ∧ Plain h' T a vs) {sh : Shape} {d : D} (r : ShRep h X sh d) : ShRep h' Y sh d := by
  cases r with
  | val r => exact .val (r.map hp)
  | int i => exact .int i
  | pair r q => exact .pair (r.map hp) (q.map hp)
/-- what holds all along a for statement -/
structure ForOK (c : Cfg) (n : Nat) (A : Around) (target : Expr) (I : Addr) (fp wr : List Addr) (shs : List Shape) (St : Nat → Heap → Prop) (s₀ s₂ : Shared) (env : Env) (o : Own) (X X₀ : List Addr) (src : List D) : Prop where
  hA : OkA c n A
  T : Turns c A target I fp wr shs St
  fpX : ∀ b ∈ fp, b ∉ X
  fpE : ∀ b ∈ fp, Here s₂.heap b ∧ NoEnv s₂.heap b
  wr0 : ∀ b ∈ wr, s₀.heap.get? b = none
  sh : ShReps s₂.heap (wr ++ X) shs src
  sub : ∀ a ∈ X₀, a ∈ X
  X₀wr : ∀ a ∈ X₀, a ∉ wr
  hm : mainGlobals ∉ wr
  hb : builtinsNs ∉ wr
  ns : ∃ m, s₂.heap.Ns env.locals m
  cells : ∀ x a, (x, a) ∈ env.cells → ∃ v, s₂.heap.IsCell a v
/-- the state ahead of a turn -/
structure ForAt (cl : List Str) (s₀ : Shared) (env : Env) (wr X₀ M : List Addr) (h : Heap) (o' : Own) (ρ' : Vars) (X' : List Addr) (s' : Shared) : Prop where
  ok : EnvOK o' X' s'.heap env ρ'
  base : Base cl s₀ env s'
  xok : XOK o' X' (wr ++ X₀) s₀
  keep : ∀ b ob, b ∉ wr → b ∉ M → b ≠ env.locals → (∀ x, env.cells.lookup x ≠ some b) → soft b ob = false → h.get? b = some ob → s'.heap.get? b = some ob
  xs : ∀ a ∈ mine o' X', a ∈ M ∨ Fr h a
section
variable {target : Expr} {I : Addr} {fp wr : List Addr} {shs : List Shape} {St : Nat → Heap → Prop} {s₂ : Shared} {src : List D} (L : ForOK c n A target I fp wr shs St s₀ s₂ env o X X₀ src)
include L
theorem ForOK.inFp (b : Addr) (h : b ∈ wr) : b ∈ fp := by obtain ⟨_, KT⟩ := L.T.ex; exact KT.sub b h
theorem ForOK.loc : env.locals ∉ fp := fun h => by obtain ⟨_, hm⟩ := L.ns; exact (L.fpE _ h).2.1 _ hm
theorem ForOK.cell (x : Str) (a : Addr) (ha : (x, a) ∈ env.cells) : a ∉ fp := fun h => by obtain ⟨_, hv⟩ := L.cells x a ha; exact (L.fpE _ h).2.2 _ hv
theorem ForOK.wrOK {h h' : Heap} (k : ∀ b o, b ∉ wr → h.get? b = some o → h'.get? b = some o) : WrOK env wr h h' := ⟨L.hm, L.hb, fun h => L.loc (L.inFp _ h), fun x a ha h => L.cell x a ha (L.inFp _ h), k⟩
theorem ForOK.base {s' : Shared} {h' : Heap} {tk : Nat} (B : Base cl s₀ env s') (k : ∀ b o, b ∉ wr → s'.heap.get? b = some o → h'.get? b = some o) : Base cl s₀ env { s' with heap := h', toks := tk } :=
  { B with kp := ⟨B.kp.heap.but fun b o e e' => k b o (fun h => ns_ ((L.wr0 _ h).symm.trans e)) e', B.kp.os, B.kp.gens⟩ }
theorem ForOK.stEnv {i : Nat} {h h' : Heap} {M : List Addr} (hM : ∀ b ∈ M, b ∉ fp) (hst : St i h) (k : ∀ b o, b ∉ M → b ≠ env.locals → (∀ x, env.cells.lookup x ≠ some b) → soft b o = false → h.get? b = some o → h'.get? b = some o) : St i h' := by
  obtain ⟨_, KT⟩ := L.T.ex
  exact KT.frame _ _ _ hst fun b hb o e => k b o (fun q => hM b q hb) (fun q => L.loc (q ▸ hb)) (fun x q => L.cell x b (mem_of_lookup q) hb) (L.T.ntab _ _ hst b hb o e) e
theorem ForOK.frame {h h' : Heap} {o' : Own} {ρ' : Vars} {X' Y₀ : List Addr} (W : EnvOK o' X' h env ρ') (xo : XOK o' X' (wr ++ X₀) s₀) (hown : ∀ a ∈ mine o' X', a ∉ fp) (k : ∀ b o, b ∉ wr → h.get? b = some o → h'.get? b = some o)
    (hY : ∀ a ∈ Y₀, a ∈ wr ++ X₀) (al : ∀ b ∈ wr, b ∈ Y₀ → Here h' b) : EnvOK o' (mine o' X' ++ Y₀) h' env ρ' :=
  W.reWr (L.wrOK k) xo (fun a ha h => hown a ha (L.inFp _ h)) hY fun a ha => by
    by_cases hw : a ∈ wr
    · exact al a hw ha
    · obtain ⟨ob, e⟩ := W.alive a (xo.sub a (hY a ha)); exact ⟨ob, k a ob hw e⟩
/-- the head of a turn -/
theorem ForOK.head {i : Nat} {s' : Shared} {d : D} {bs : Vars} {o' : Own} {ρ' : Vars} {X' : List Addr} {Q : Unit → Shared → Prop} (hn : env.scope.names = names) (hd : src[i]? = some d) (hst : St i s'.heap) (a : ForAt cl s₀ env wr X₀ (mine o X) s₂.heap o' ρ' X' s')
    (hown : ∀ a ∈ mine o' X', a ∉ fp) (hbs : Binds names cl target d bs) (hob : ∀ y ds, o' = some (y, ds) → y ∉ binder target) (E : Value → Shared → Prop) (hQ : ∀ s₄, ForAt cl s₀ env wr X₀ (mine o X) s₂.heap o' (bs ++ ρ') X' s₄ → St (i + 1) s₄.heap → Q () s₄) :
    wpAny (model c.prog c.w) A (pyNext (.ref I)) (fun r s₁ => ∃ v, r = some v ∧ wpAny (model c.prog c.w) A (letOwnedTupleGo target (.ref I) v) (fun _ s₃ => wpAny (model c.prog c.w) A (assign target env v) Q E s₃) E s₁) E s' := by
  obtain ⟨Md, KT⟩ := L.T.ex
  have hlt' : i < shs.length := L.sh.1 ▸ (List.getElem?_eq_some_iff.mp hd).1
  refine KT.item i s' _ _ hlt' hst fun v h₁ tk₁ hmd hk₁ => ⟨v, rfl, ?_⟩
  refine KT.go i v _ _ _ hmd fun h₂ hP hst₂ hk₂ => ?_
  clear hmd
  obtain ⟨sh, hs, his⟩ := hP
  have kw : ∀ b o, b ∉ wr → s'.heap.get? b = some o → h₂.get? b = some o := fun b o hb e => hk₂ b o hb (hk₁ b o hb e)
  clear hk₁ hk₂
  have W₃ := L.frame (Y₀ := wr ++ X₀) a.ok a.xok hown kw (fun _ h => h) fun b hb _ => L.T.live _ _ hst₂ b hb
  rw [← a.xok.eq] at W₃
  have k₃ : ∀ b ob, b ∉ wr → b ∉ mine o X → b ≠ env.locals → (∀ x, env.cells.lookup x ≠ some b) → soft b ob = false → s₂.heap.get? b = some ob → h₂.get? b = some ob := fun b ob h1 h2 h3 h4 h5 e => kw b ob h1 (a.keep b ob h1 h2 h3 h4 h5 e)
  have sk : SeqKeep (wr ++ X) s₂.heap h₂ := fun a T vs m ha e => k₃ a _ (fun q => ha (List.mem_append_left _ q)) (fun q => ha (List.mem_append_right _ (mine_sub q)))
    (fun q => by obtain ⟨m, hm⟩ := L.ns; exact not_seq_of_ns hm (q ▸ e)) (fun x q => by obtain ⟨u, hu⟩ := L.cells _ _ (mem_of_lookup q); exact not_seq_of_cell hu e) rfl e
  have sr : ShRep h₂ X' sh d := (L.sh.2 i sh d hs hd).map (Plain.move sk fun b hb => by
    rw [a.xok.eq] at hb
    rcases List.mem_append.mp hb with h | h
    · exact (a.xs b h).imp (fun q => List.mem_append_right _ (mine_sub q)) id
    · exact .inl ((List.mem_append.mp h).elim (fun h => List.mem_append_left _ h) fun h => List.mem_append_right _ (L.sub b h)))
  refine then_ (hbs.run (s := { s' with heap := h₂, toks := tk₁ }) L.hA.handled hn W₃ (L.base a.base kw) (sr.item his) (fun x px e => sr.rep his (L.T.nm x px e sh (List.mem_of_getElem? hs))) hob) fun _ s₄ g₄ => ?_
  exact hQ s₄ ⟨g₄.1, g₄.2.1, a.xok, fun b ob h1 h2 h3 h4 h5 e => g₄.2.2 b ob h3 h4 h5 (k₃ b ob h1 h2 h3 h4 h5 e), a.xs⟩ (L.stEnv (M := []) (fun _ h => absurd h List.not_mem_nil) hst₂ fun b ob _ h3 h4 t e => g₄.2.2 b ob h3 h4 t e)
/-- behind a turn -/
theorem ForOK.next {i : Nat} {s₄ s₅ : Shared} {o' o'' : Own} {ρ' ρ'' : Vars} {X' X'' : List Addr} (hst : St (i + 1) s₄.heap) (a : ForAt cl s₀ env wr X₀ (mine o X) s₂.heap o' ρ' X' s₄) (hown : ∀ a ∈ mine o' X', a ∉ fp) (nx : Nx cl s₀ (wr ++ X₀) env (mine o' X') s₄ o'' ρ'' X'' s₅) :
    St (i + 1) s₅.heap ∧ ForAt cl s₀ env wr X₀ (mine o X) s₂.heap o'' ρ'' X'' s₅ := by
  refine ⟨L.stEnv hown hst nx.keep, nx.ok, nx.base, nx.xok, fun b ob h1 h2 h3 h4 h5 e => nx.keep b ob (fun h => ?_) h3 h4 h5 (a.keep b ob h1 h2 h3 h4 h5 e), fun b hb => ?_⟩
  · exact (a.xs b h).elim h2 fun q => q.no e h5
  · rcases nx.xs b hb with q | q
    · exact a.xs b q
    · refine Fr.mine nx.ok hb fun ob n1 n2 t e => ?_
      by_cases h1 : b ∈ wr
      · obtain ⟨ob', e'⟩ := L.T.live _ _ hst b h1
        exact (q.no e' (L.T.ntab _ _ hst b (L.inFp _ h1) _ e')).elim
      · by_cases hM : b ∈ mine o X
        · exact .inl hM
        · exact (q.no (a.keep b ob h1 hM n1 n2 t e) t).elim
end
/-- a for statement -/
theorem Ex1.for_ {target iter : Expr} {body : List Stmt} {pos : Pos} {src : List D} (Inv : Nat → Own → Vars → Prop) (hsrc : Src c n names o ρ target iter src) (h0 : ∃ ρ₀, Inv 0 o ρ₀ ∧ ∀ x d, ρ₀.lookup x = some d → ρ.lookup x = some d)
    (step : ∀ i d, src[i]? = some d → ∀ o' ρ', Inv i o' ρ' → ∃ bs, Binds names cl target d bs ∧ (∀ y ds, o' = some (y, ds) → y ∉ binder target) ∧ Ex c n names cl o' (bs ++ ρ') body (fun o'' ρ'' => Inv (i + 1) o'' ρ'') R)
    (hN : ∀ o' ρ', Inv src.length o' ρ' → N o' ρ') : Ex1 c n names cl o ρ (.For target iter body [] pos) N R := fun A env X X₀ s₀ s E hA hn hW W B xo => by
  have hWs := hW _ _ _ _ W B
  refine wpAny_For (hsrc.2 A env X s E _ hA hn hWs W fun I fp wr shs St s₂ kp T hst hwr hfpX hfpE hsh => ?_) (hsrc.1 env)
  have new : ∀ {a ob}, s.heap.get? a = some ob → a ∉ wr := fun e h => ns_ ((hwr _ h).symm.trans e)
  have L : ForOK c n A target I fp wr shs St s₀ s₂ env o X X₀ src := by
    obtain ⟨⟨og, eg⟩, ob, eb⟩ := c.gl _ hWs
    refine ⟨hA, T, hfpX, hfpE, fun b hb => ?_, hsh, xo.sub, fun a ha => ?_, new eg, new eb, W.ns.elim fun m n => ⟨m, kp.heap.ns n⟩, fun x a ha => (W.cells x a ha).elim fun v hv => ⟨v, kp.heap.cell hv⟩⟩
    · cases e : s₀.heap.get? b with
      | none => rfl
      | some o => obtain ⟨_, this⟩ := B.kp.heap.here e; exact absurd hb (new this)
    · obtain ⟨_, e⟩ := W.alive a (xo.sub a ha); exact new e
  obtain ⟨ρ₀, hI0, hρ₀⟩ := h0
  obtain ⟨X₂, W₂, xo₂, hmine⟩ := (W.sub hρ₀).wider (h' := s₂.heap) xo kp.heap hwr fun b hb => T.live 0 _ hst b hb
  have a₀ : ForAt cl s₀ env wr X₀ (mine o X) s₂.heap o ρ₀ X₂ s₂ := ⟨W₂, B.step kp, xo₂, fun _ _ _ _ _ _ _ e => e, fun a ha => .inl (hmine ▸ ha)⟩
  have hsoft : ∀ a ∈ fp, ∀ ob, s₂.heap.get? a = some ob → soft a ob = false := fun a ha => T.ntab 0 _ hst a ha
  clear hfpX hfpE hsh W xo W₂ xo₂ hmine hρ₀ hWs T B
  refine codeAny_forLoop_any
    (fun m s' => ∃ i o' ρ' X', i ≤ src.length ∧ m = src.length + 1 - i ∧ Inv i o' ρ' ∧ St i s'.heap ∧ ForAt cl s₀ env wr X₀ (mine o X) s₂.heap o' ρ' X' s')
    (fun m s' hI => ?_) (src.length + 1) ⟨0, o, ρ₀, X₂, Nat.zero_le _, rfl, hI0, hst, a₀⟩
  clear a₀ hI0 hst
  obtain ⟨i, o', ρ', X', hi, rfl, hInv, hst, a⟩ := hI
  have hown : ∀ a ∈ mine o' X', a ∉ fp := fun b hb hf => by
    rcases a.xs b hb with q | q
    · exact L.fpX b hf (mine_sub q)
    · obtain ⟨⟨ob, e⟩, _⟩ := L.fpE b hf; exact q.no e (hsoft b hf ob e)
  by_cases hlt : i < src.length
  · have hd : src[i]? = some src[i] := List.getElem?_eq_getElem hlt
    obtain ⟨bs, hbs, hob, hbody⟩ := step i _ hd o' ρ' hInv
    refine then_ (L.head (Q := fun _ s₄ => ForAt cl s₀ env wr X₀ (mine o X) s₂.heap o' (bs ++ ρ') X' s₄ ∧ St (i + 1) s₄.heap) hn hd hst a hown hbs hob _ fun s₄ a st => ⟨a, st⟩) fun rr s₁ hh => ?_
    obtain ⟨v, rfl, hh⟩ := hh
    refine then_ hh fun _ s₃ hh => then_ hh fun _ s₄ hh => ?_
    refine then_ (hbody A env X' (wr ++ X₀) s₀ s₄ _ hA hn hW hh.1.ok hh.1.base hh.1.xok) fun f s₅ a => ?_
    cases f with
    | next =>
      obtain ⟨o'', ρ'', X'', hInv', nx⟩ := a
      exact ⟨src.length + 1 - (i + 1), by exact z80 hlt, i + 1, o'', ρ'', X'', hlt, rfl, hInv', L.next hh.2 hh.1 hown nx⟩
    | ret v =>
      obtain ⟨d', hd', r, k⟩ := a
      exact ⟨d', hd', r.less fun _ h => List.mem_append_right _ h, k⟩
    | brk => exact a.elim
    | cont => exact a.elim
  · have hi := Nat.le_antisymm hi (Nat.le_of_not_lt hlt)
    subst hi
    obtain ⟨Md, KT⟩ := L.T.ex
    refine KT.done s' _ _ (by rw [L.sh.1]; exact hst) fun h' tk hk => wpAny_execs_nil ?_
    have xr := a.xok.re X₀
    have hback : ∀ {a ob}, soft a ob = false → s.heap.get? a = some ob → s₂.heap.get? a = some ob := fun t e => kp.heap.at' _ _ e t
    refine ⟨o', ρ', mine o' X' ++ X₀, hN _ _ hInv, L.frame a.ok a.xok hown hk (fun _ h => List.mem_append_right _ h) (fun b hw hb => absurd hw (L.X₀wr b hb)), L.base a.base hk, xr.1, fun b ob h1 h2 h3 h4 e => ?_, fun b hb => ?_⟩
    · exact hk b ob (new e) (a.keep b ob (new e) h1 h2 h3 h4 (hback h4 e))
    · rw [xr.2] at hb
      refine (a.xs b hb).imp id fun q ob e => ?_
      cases t : soft b ob with
      | true => rfl
      | false => exact (q.no (hback t e) t).elim
end
end
section
open PySem PySem.W PyProof.Rows
variable [Lo]
section
variable {c : Cfg} {n : Nat} {names : Names} {o : Own} {ρ : Vars} {cl : List Str} {A : Around} {E : Value → Shared → Prop} {s s₀ : Shared} {env : Env} {X X₀ : List Addr} {N : Own → Vars → Prop} {R : D → Prop}
theorem Keep.noLimit {h h' : Heap} (k : Keep h h') (x : h.NoLimit) : h'.NoLimit := by obtain ⟨m, n, e⟩ := x; exact ⟨m, k.ns n, e⟩
theorem OkA.deeper {A : Around} {env : Env} (h : OkA c (n + 1) A) (hc : c.frames = none) : OkA c n (A.deeper env) :=
  ⟨h.handled, by have := h.depth; simp only [Around.deeper]; exact z365 this, by have := h.units; simp only [Around.deeper_units]; exact z269 this, fun l e => by rw [hc] at e; exact ns_ e⟩
/-- a function of the program's, as it stands in every heap -/
structure IsDef (c : Cfg) (a : Addr) (fd : FuncData) : Prop where
  at' : ∀ h, c.Wf h → ∃ o, h.get? a = some o ∧ o.data = .func fd ∧ h.NoLimit ∧ h.CodeRec fd.code fd.qualname
  fr : c.frames = none
  glob : fd.globals = mainGlobals
  built : fd.builtins = builtinsNs
  clo : fd.closure = []
  kind : fd.scope.kind = .function
  co : fd.scope.isCoroutine = false
  gen : fd.scope.isGenerator = false
  free : fd.scope.names.all (fun p => p.2 != .free) = true
theorem IsDef.noFree {a : Addr} {fd : FuncData} (F : IsDef c a fd) {x : Str} (h : fd.scope.names.lookup x = some .free) : False := by
  have := List.all_eq_true.mp F.free _ (mem_of_lookup h)
  simp at this
/-- a call of it: the body in a frame of its own -/
theorem IsDef.run {a : Addr} {fd : FuncData} {body : List Stmt} (F : IsDef c a fd) (hbody : fd.body = .stmts body) {ps : List Str} {args : Args} {bvs : List Value} {bds : List D} {Q : Value → Shared → Prop}
    (hps : ∀ x ∈ ps, fd.scope.names.lookup x = some .local ∨ fd.scope.names.lookup x = some .cell) (hl : ps.length = bvs.length) (hA : OkA c (n + 1) A) (hW : c.Wf s.heap) (hX : Alive X s.heap) (hbind : BindsTo s fd args (ps.zip bvs)) (r : Reps s.heap X bvs bds)
    (h : ∀ env s', env.scope = fd.scope → EnvOK none X s'.heap env (ps.zip bds).reverse → Base [] s env s' → OkA c n (A.deeper env) → env = newEnv fd.scope s.heap.objs.size mainGlobals env.cells (fd.qualname ++ ".<locals>.") (some a) fd.code none builtinsNs →
      wpAny (model c.prog c.w) (A.deeper env) (execs body env) (fun f s' => Q (match f with | .ret v => v | _ => .none) s')
        (fun e s' => wpAny (model c.prog c.w) (A.deeper env) (leaving env e) (fun _ s'' => E e s'') (fun e' s'' => E e' s'') s') s') :
    wpAny (model c.prog c.w) A (call (.ref a) args.pos args.kw) Q E s := by
  obtain ⟨o, ho, hd, hlim, hcd⟩ := F.at' _ hW
  refine wpAny_call (codeAny_call_function (by have := hA.depth; exact z270 this) ho hd F.co F.gen hbody hcd (hbind _ _ _ _ ?_))
  rw [F.glob, F.built, F.clo]
  have hz : (ps.zip bvs).map (·.2) = bvs := by rw [List.map_snd_zip (by exact z496 hl)]
  have hz1 : (ps.zip bvs).map (·.1) = ps := by rw [List.map_fst_zip (by exact z499 hl)]
  refine wpAny_newFrame (cl := []) (ds := bds) hW F.kind hX (by intro _ _ h; cases h) .nil (fun x hx => (F.noFree hx).elim) (fun p hp => hps p.1 (by rw [← hz1]; exact List.mem_map_of_mem hp)) (by rw [hz]; exact r) (by intro _ e; exact ns_ e) fun env s' e1 e2 e3 e4 W B => ?_
  rw [hz1] at W
  refine ⟨(B.kp.heap.noLimit hlim), codeAny_func (then_ (h env s' e1 W B (hA.deeper F.fr) (by rw [e3]; exact e4)) fun f s'' q => ?_)⟩
  cases f <;> exact q
theorem Fn.def {a : Addr} {fd : FuncData} {body : List Stmt} (F : IsDef c a fd) (hbody : fd.body = .stmts body) {ps : List Str} {ds bds : List D} {ks : List (Str × D)} {d : D}
    (hps : ∀ x ∈ ps, fd.scope.names.lookup x = some .local ∨ fd.scope.names.lookup x = some .cell)
    (hbind : ∀ (s : Shared) (X : List Addr) (vs kvs : List Value), c.Wf s.heap → Reps s.heap X vs ds → Reps s.heap X kvs (ks.map (·.2)) → ∃ bvs, BindsTo s fd ⟨vs, (ks.map (·.1)).zip kvs⟩ (ps.zip bvs) ∧ Reps s.heap X bvs bds ∧ ps.length = bvs.length)
    (hex : Ex c n fd.scope.names [] none (ps.zip bds).reverse body (fun _ _ => False) (· = d)) : Fn c (n + 1) (.ref a) ds ks d :=
  ⟨fun h hW => by obtain ⟨o, ho, hd, _⟩ := F.at' h hW; exact .func ho hd, fun A X s E vs kvs hA hW hX r rk => by
    obtain ⟨bvs, hb, rb, hl⟩ := hbind s X vs kvs hW r rk
    refine F.run (args := ⟨vs, (ks.map (·.1)).zip kvs⟩) hbody hps hl hA hW hX hb rb fun env s' e1 W B hA' _ => ?_
    refine then_ (hex (A.deeper env) env X X s s' _ hA' (by rw [e1]) (.of hW) W B rfl) fun f s'' a => ?_
    cases f with
    | next => obtain ⟨_, _, _, h, _⟩ := a; exact h.elim
    | ret v => obtain ⟨d', rfl, r, k⟩ := a; exact ⟨r, k⟩
    | brk => exact a.elim
    | cont => exact a.elim⟩
/-- augmented assignment of ints -/
theorem Ex1.augAdd {x : Str} {px pos : Pos} {e : Expr} {a b : Int} (hx' : ρ.lookup x = some (.int a)) (h : Ev c n names o ρ e (.int b)) (hx : storable names cl x) (ho : noOwn o x) (hN : N o ((x, .int (a + b)) :: ρ)) :
    Ex1 c n names cl o ρ (.AugAssign (.Name x px) .Add e pos) N R := fun A env X X₀ s₀ s E hA hn hW W B xo => by
  obtain ⟨v, l, r⟩ := W.look x _ hx'
  obtain ⟨t, rfl⟩ := r.inv
  refine PySem.wpAny_AugAssign_Name (wpAny_loadName_look W.kind W.glob W.built l (then_ (h A env X s E hA hn (hW _ _ _ _ W B) W) fun v s₁ g => ?_))
  obtain ⟨r, k⟩ := g
  obtain ⟨u, rfl⟩ := r.inv
  have nx := Nx.kp W B xo k
  refine P.iadd_int ?_
  have nx₂ : Nx cl s₀ X₀ env (mine o X) s o ρ X { s₁ with toks := s₁.toks + 1 } := nx.trans' (Nx.kp nx.ok nx.base xo .tok)
  exact wpAny_store nx₂.ok (stores_of hn nx₂.ok hx) ho (.int _ _) fun h' tk b W' t => ⟨o, _, X, hN, nx₂.trans' (.store W' nx₂.base hx.2 t xo)⟩
theorem Ex1.augSub {x : Str} {px pos : Pos} {e : Expr} {a b : Int} (hx' : ρ.lookup x = some (.int a)) (h : Ev c n names o ρ e (.int b)) (hx : storable names cl x) (ho : noOwn o x) (hN : N o ((x, .int (a - b)) :: ρ)) :
    Ex1 c n names cl o ρ (.AugAssign (.Name x px) .Sub e pos) N R := fun A env X X₀ s₀ s E hA hn hW W B xo => by
  obtain ⟨v, l, r⟩ := W.look x _ hx'
  obtain ⟨t, rfl⟩ := r.inv
  refine PySem.wpAny_AugAssign_Name (wpAny_loadName_look W.kind W.glob W.built l (then_ (h A env X s E hA hn (hW _ _ _ _ W B) W) fun v s₁ g => ?_))
  obtain ⟨r, k⟩ := g
  obtain ⟨u, rfl⟩ := r.inv
  have nx := Nx.kp W B xo k
  refine P.isub_int ?_
  have nx₂ : Nx cl s₀ X₀ env (mine o X) s o ρ X { s₁ with toks := s₁.toks + 1 } := nx.trans' (Nx.kp nx.ok nx.base xo .tok)
  exact wpAny_store nx₂.ok (stores_of hn nx₂.ok hx) ho (.int _ _) fun h' tk b W' t => ⟨o, _, X, hN, nx₂.trans' (.store W' nx₂.base hx.2 t xo)⟩
/-- the split of a text makes a list -/
theorem EvNew.meth {b : Expr} {name : Str} {apos pos : Pos} {as : List Expr} {d₀ : D} {ds es : List D} (hb : Ev c n names none ρ b d₀) (ha : Evs c n names none ρ as ds)
    (h : ∃ T id, PlainAttrs T ∧ Slot T name id ∧ typeOf (.builtin id) = pure (.type "method_descriptor") ∧ (∀ (s : Shared) X v, Rep s.heap X v d₀ → s.TypeIs v T) ∧
      ∀ (A : Around) (X : List Addr) (s : Shared) (E : Value → Shared → Prop) (v : Value) (vs : List Value), OkA c n A → c.Wf s.heap → Alive X s.heap → Rep s.heap X v d₀ → Reps s.heap X vs ds →
        wpAny (model c.prog c.w) A (call (.builtin id) (v :: vs)) (fun v s' => ∃ a vs, v = .ref a ∧ s.heap.get? a = none ∧ Plain s'.heap "list" a vs ∧ es.length ≤ lim ∧ Reps s'.heap (a :: X) vs es ∧ Kp s s') E s)
    (hd : ∀ u, d₀ ≠ .val u := by intro _ h; cases h)
    (hs : noStars as = true := by rfl) (hlen : as.length < 30 := by decide) (hline : (apos.endLine == pos.line) = true := by rfl) (hbase : ∀ env, attributeBase b name env (eval b env) = eval b env := by intro _; rfl) :
    EvNew c n names ρ (.Call (.Attribute b name apos) as [] pos) es := fun A env X s E hA hn hW W => by
  obtain ⟨T, id, pa, sl, ty, ti, run⟩ := h
  refine wpAny_Call_method_lateS (hbase env) ?_ hline (then_ (hb A env X s E hA hn hW W) fun v s₁ g => ?_)
  · have : ((backTo pos (starEach as env)).all fun x => !x.1) = true := by
      rw [List.all_eq_true]; intro x hx; rw [noStars_each hs env pos x hx]; rfl
    rw [this]
    show (true && true && decide (as.length + 0 + 0 < 30)) = true
    simpa using hlen
  · obtain ⟨r, k⟩ := g
    refine ⟨T, id, pa, sl, ty, ti _ _ _ r, rep_dict r hd, ?_⟩
    refine Calls.callWith_builtin (any_false_of (noStars_each hs env pos)) (evalArgs_plain' (kws := []) (noStars_each hs env pos) rfl (then_ (ha A env X s₁ E pos hA hn (c.keeps _ _ k.heap hW) (W.keeps k.heap)) fun vs s₂ g₂ => wpAny_evalAll_nil ?_))
    have k₂ := k.trans g₂.2
    refine then_ (run A X s₂ E v vs hA (c.keeps _ _ k₂.heap hW) (W.alive.keeps k₂.heap) (r.kp g₂.2) g₂.1) fun u s₃ g => ?_
    obtain ⟨a, vs', e, hn, p, hl, r', k'⟩ := g
    refine ⟨a, vs', e, ?_, p, hl, r', k₂.trans k'⟩
    cases q : s.heap.get? a with
    | none => rfl
    | some o => obtain ⟨_, this⟩ := k₂.heap.here q; rw [hn] at this; exact ns_ this
theorem newL' {s : Shared} {X : List Addr} {l : List (Str × Tok)} {xs : List Str} {tk m : Nat} (e : l.map (·.1) = xs) (hl : xs.length ≤ lim) (hx : ∀ x ∈ xs, x.length ≤ lim) :
    ∃ a vs, Value.ref s.heap.objs.size = .ref a ∧ s.heap.get? a = none ∧ Plain (s.heap.push { cls := .type "list", data := .seq (strValues l).toArray m }) "list" a vs ∧ (xs.map D.str).length ≤ lim ∧ Reps (s.heap.push { cls := .type "list", data := .seq (strValues l).toArray m }) (a :: X) vs (xs.map .str) ∧ Kp s { s with heap := s.heap.push { cls := .type "list", data := .seq (strValues l).toArray m }, toks := tk } := by
  subst e
  refine ⟨_, strValues l, rfl, ?_, ⟨m, Heap.get?_push_size _ rfl⟩, by simpa using hl, Reps.ofStrs l fun p hp => hx _ (List.mem_map_of_mem hp), .push⟩
  cases q : s.heap.get? s.heap.objs.size with
  | none => rfl
  | some o => exact absurd (Heap.lt_size q) (Nat.lt_irrefl _)
open Builtin Builtin.Str in
theorem EvNew.split {b e : Expr} {apos pos : Pos} {x y : Str} (hb : Ev c n names none ρ b (.str x)) (he : Ev c n names none ρ e (.str y)) (hy : (y.length == 0) = false) (hl : (Txt.split x y).length ≤ lim) (hx : ∀ z ∈ Txt.split x y, z.length ≤ lim) (hes : isStarred e = false := by rfl)
    (hline : (apos.endLine == pos.line) = true := by rfl) (hbase : ∀ env, attributeBase b "split" env (eval b env) = eval b env := by intro _; rfl) : EvNew c n names ρ (.Call (.Attribute b "split" apos) [e] [] pos) ((Txt.split x y).map .str) :=
  EvNew.meth hb (Evs.cons he Evs.nil hes) ⟨"str", _, F.plainAttrs_str, F.slot_str_split, F.type_str_split, fun _ _ _ r => r.typeIs_str, fun A X s E v vs _ _ hX r q => by
    obtain ⟨u, rfl, q'⟩ := q.one
    obtain ⟨t, hxl, rfl⟩ := r.inv
    obtain ⟨u, hyl, rfl⟩ := q'.inv
    have hsz : x.length ≤ sizeLine := lim_sizeLine hxl
    cases h1 : (decide (x.length < y.length) || decide (strKind x < strKind y))
    · cases hf : (occurrences x y 0 x.length (x.length + 1)).isEmpty
      · have e : partsBetween x (occurrences x y 0 x.length (x.length + 1)) y.length = Txt.split x y := by unfold Txt.split; rw [h1, hf]; simp
        refine call_meets F.slot_str_split (typeIs_str _ _ _) F.entry_str_split (F.args_str_split_2 _ _) (meets_str_split_sep x y t u h1 hy hf hsz (by rw [e]; exact lim_sizeLine hl)) ?_
        show wants _ E _ { s with toks := _, heap := s.heap.push { cls := .type "list", data := .seq (strsFrom s.toks (partsBetween x (occurrences x y 0 x.length (x.length + 1)) y.length)).toArray } }
        rw [strsFrom_eq]
        exact newL' ((numbered_texts _ _).trans e) hl hx
      · have e : [x] = Txt.split x y := by unfold Txt.split; rw [h1, hf]; simp
        exact call_meets F.slot_str_split (typeIs_str _ _ _) F.entry_str_split (F.args_str_split_2 _ _) (meets_str_split_not_found x y t u h1 hy hf) (newL' (l := [(x, t)]) (tk := s.toks) e hl hx)
    · have e : [x] = Txt.split x y := by unfold Txt.split; rw [h1]; simp
      exact call_meets F.slot_str_split (typeIs_str _ _ _) F.entry_str_split (F.args_str_split_2 _ _) (meets_str_split_cannot_occur x y t u h1) (newL' (l := [(x, t)]) (tk := s.toks) e hl hx)⟩ (by intro _ h; cases h) (by simp [noStars, hes]) (by simp) hline hbase
end
end
section
open PySem PySem.W PyProof.Rows PySem.Float64
variable [Lo]
theorem V_has : ∀ (k q : Nat), q < 2 ^ 53 → k ≤ 1100 → ∃ t, t < infMag ∧ V t = q * 2 ^ k
  | 0, q, hq, _ => ⟨q, by unfold infMag; exact z472 hq, by have := V_at (k := 0) (q := q) (by exact z490 hq) (.inr rfl); simpa using this⟩
  | k + 1, q, hq, hk => by
    by_cases h : q < 2 ^ 52
    · obtain ⟨t, h1, h2⟩ := V_has k (2 * q) (by exact z398 h hq) (by exact z479 hk)
      exact ⟨t, h1, by rw [h2, Nat.pow_succ]; rw [Nat.mul_comm 2 q, Nat.mul_assoc, Nat.mul_comm 2 (2 ^ k)]⟩
    · exact ⟨(k + 1) * 2 ^ 52 + q, by unfold infMag; exact z267 hk hq h, V_at (by exact z444 hq h) (.inl (by exact z442 hq h))⟩
theorem Right.exact {r : UInt64} {neg : Bool} {W D K : Nat} (h : Right r neg W D) (hD : 0 < D) (hW : W = D * (K * 2 ^ 1073)) (hK : K < 2 ^ 53) : (∃ m e, decode r = .fin neg m e) ∧ val r = sgn neg (K * 2 ^ 1073) := by
  obtain ⟨t, rfl, ht, hov, hnear⟩ := h
  obtain ⟨t₀, h1, h2⟩ := V_has 1073 K hK (by exact z556)
  have hlt : t < infMag := by
    refine Nat.lt_of_le_of_ne ht fun e => ?_
    have := hov.mp e
    rw [hW] at this
    have hb : 2 * (K * 2 ^ 1073) < (2 ^ 54 - 1) * 2 ^ 2045 := by
      have e1 : (2 : Nat) ^ 2045 = 2 ^ 972 * 2 ^ 1073 := by rw [← Nat.pow_add]
      rw [e1, ← Nat.mul_assoc, ← Nat.mul_assoc]
      refine Nat.mul_lt_mul_of_pos_right ?_ (Nat.two_pow_pos _)
      have : 1 ≤ (2 : Nat) ^ 972 := Nat.one_le_two_pow
      calc 2 * K < 2 ^ 54 - 1 := by exact z355 hK
        _ ≤ (2 ^ 54 - 1) * 2 ^ 972 := Nat.le_mul_of_pos_right _ (Nat.two_pow_pos _)
    have e2 : 2 * (D * (K * 2 ^ 1073)) = D * (2 * (K * 2 ^ 1073)) := by rw [Nat.mul_left_comm]
    rw [e2] at this
    exact absurd (Nat.le_of_mul_le_mul_left this hD) (Nat.not_le.mpr hb)
  have hn := (hnear hlt t₀).1
  rw [h2, hW] at hn
  have hz : dist (D * (K * 2 ^ 1073)) (D * (K * 2 ^ 1073)) = 0 := by unfold dist; exact z125
  rw [hz] at hn
  have he : D * (K * 2 ^ 1073) = D * V t := by unfold dist at hn; exact z27 hn
  have hv : V t = K * 2 ^ 1073 := (Nat.eq_of_mul_eq_mul_left hD he).symm
  obtain ⟨m, e, hd, _⟩ := decode_pack neg hlt
  exact ⟨⟨m, e, hd⟩, by rw [val_pack neg hlt, hv]⟩
theorem sgn_decide (k : Int) : sgn (decide (k < 0)) k.natAbs = k := by
  unfold sgn
  by_cases h : k < 0
  · simp [h]; exact z336 h
  · simp [h]; exact z348 h
theorem sgn_mulInt (b : Bool) (m : Nat) (j : Nat) : sgn b (m * j) = sgn b m * (j : Int) := sgn_mul b m j
theorem natAbs_mul_pow (k : Int) : (k * 2 ^ 1073).natAbs = k.natAbs * 2 ^ 1073 := by
  rw [Int.natAbs_mul]; congr 1
theorem neg_mul_pow (k : Int) : decide (k * 2 ^ 1073 < 0) = decide (k < 0) := by
  apply decide_eq_decide.mpr
  constructor
  · intro h
    rcases Int.lt_or_le k 0 with q | q
    · exact q
    · have := Int.mul_nonneg q (Int.le_of_lt two_pow_pos'); exact z484 q h
  · intro h; exact Int.mul_neg_of_neg_of_pos h two_pow_pos'
theorem FV.ofRight {r : UInt64} {neg : Bool} {W D : Nat} {k : Int} (h : Right r neg W D) (hD : 0 < D) (hW : W = D * (k.natAbs * 2 ^ 1073)) (hK : k.natAbs < 2 ^ 53) (hs : k = 0 ∨ neg = decide (k < 0)) : FV r k := by
  obtain ⟨⟨m, e, hd⟩, hv⟩ := Right.exact h hD hW hK
  refine ⟨neg, m, e, hd, ?_⟩
  rw [hv, sgn_mul]
  have h2 : ((2 ^ 1073 : Nat) : Int) = 2 ^ 1073 := by push_cast; rfl
  rw [h2]
  congr 1
  rcases hs with rfl | rfl
  · unfold sgn; cases neg <;> simp
  · exact sgn_decide k
theorem FV.zero (neg : Bool) : FV (Float64.zero neg) 0 := by
  obtain ⟨m, e, hd, _⟩ := decode_pack neg (t := 0) (by unfold infMag; exact z542)
  refine ⟨neg, m, e, hd, ?_⟩
  have h := val_pack neg (t := 0) (by unfold infMag; exact z542)
  show val (pack neg 0) = _
  rw [h, show V 0 = 0 from by unfold V; simp]
  unfold sgn; cases neg <;> simp
theorem FV.add {x y : UInt64} {a b : Int} (hx : FV x a) (hy : FV y b) (h : (a + b).natAbs < 2 ^ 53) : FV (Float64.add x y) (a + b) := by
  obtain ⟨sx, mx, ex, dx, vx⟩ := hx
  obtain ⟨sy, my, ey, dy, vy⟩ := hy
  obtain ⟨h0, h1⟩ := add_right dx dy
  rw [vx, vy, ← Int.add_mul] at h0 h1
  by_cases hz : a + b = 0
  · rw [h0 (by rw [hz, Int.zero_mul]), hz]; exact FV.zero _
  · have := h1 (by intro e; rcases Int.mul_eq_zero.mp e with q | q; exact hz q; exact absurd q (Int.ne_of_gt two_pow_pos'))
    refine FV.ofRight this (by decide) (by rw [natAbs_mul_pow, Nat.one_mul]) h (.inr ?_)
    exact neg_mul_pow _
theorem FV.neg {y : UInt64} {b : Int} (hy : FV y b) : FV (Float64.neg y) (-b) := by
  obtain ⟨sy, my, ey, dy, vy⟩ := hy
  exact ⟨_, _, _, neg_decode dy, by rw [neg_val dy, vy, Int.neg_mul]⟩
theorem FV.sub {x y : UInt64} {a b : Int} (hx : FV x a) (hy : FV y b) (h : (a - b).natAbs < 2 ^ 53) : FV (Float64.sub x y) (a - b) := by
  have := hx.add hy.neg (by rw [← Int.sub_eq_add_neg]; exact h)
  rw [← Int.sub_eq_add_neg] at this
  unfold Float64.sub; exact this
theorem FV.ofInt {i : Int} (h : (2 * i).natAbs < 2 ^ 53) : FV (Float64.ofInt i) (2 * i) := by
  refine FV.ofRight (ofInt_right i) (by decide) ?_ h (.inr ?_)
  · rw [Nat.one_mul, Int.natAbs_mul, show (2 : Nat) ^ 1074 = 2 * 2 ^ 1073 from by rw [Nat.pow_succ, Nat.mul_comm]]
    rw [← Nat.mul_assoc, Nat.mul_comm i.natAbs 2]; rfl
  · apply decide_eq_decide.mpr; exact z376
theorem sign_of {s : Bool} {m : Nat} {e : Int} {x : UInt64} {a : Int} (d : decode x = .fin s m e) (v : val x = a * 2 ^ 1073) (h : a ≠ 0) : s = decide (a < 0) := by
  rw [val_eq d, sgn_mul] at v
  have h2 : (0 : Int) < ((2 ^ (e + 1074).toNat : Nat) : Int) := Int.ofNat_lt.mpr (Nat.two_pow_pos _)
  have hpos := two_pow_pos'
  cases s with
  | false =>
    have : ¬ a < 0 := fun ha => by
      have h3 := Int.mul_neg_of_neg_of_pos ha hpos
      have h4 : 0 ≤ sgn false m * ((2 ^ (e + 1074).toNat : Nat) : Int) := Int.mul_nonneg (by unfold sgn; simp) (Int.le_of_lt h2)
      exact z356 h4 ha v
    simp [this]
  | true =>
    have : a < 0 := by
      rcases Int.lt_or_le a 0 with q | q
      · exact q
      · have h3 : 0 < a * 2 ^ 1073 := Int.mul_pos (by exact z377 q h) hpos
        have h4 : sgn true m * ((2 ^ (e + 1074).toNat : Nat) : Int) ≤ 0 := Int.mul_nonpos_of_nonpos_of_nonneg (by unfold sgn; simp) (Int.le_of_lt h2)
        exact z352 h3 v h4
    simp [this]
theorem sign_mul {a b k : Int} (sx sy : Bool) (ha : a ≠ 0 → sx = decide (a < 0)) (hb : b ≠ 0 → sy = decide (b < 0)) (hk : ∃ c : Int, 0 < c ∧ a * b = c * k) : k = 0 ∨ (sx != sy) = decide (k < 0) := by
  obtain ⟨c, hc, e⟩ := hk
  by_cases h0 : k = 0
  · exact .inl h0
  · right
    have hab : a * b ≠ 0 := by rw [e]; exact Int.mul_ne_zero (by exact z477 hc) h0
    have ha0 : a ≠ 0 := by rintro rfl; simp at hab
    have hb0 : b ≠ 0 := by rintro rfl; simp at hab
    rw [ha ha0, hb hb0]
    have hkk : k < 0 ↔ a * b < 0 := by
      rw [e]
      constructor
      · intro h; exact Int.mul_neg_of_pos_of_neg hc h
      · intro h
        rcases Int.lt_or_le k 0 with q | q
        · exact q
        · have := Int.mul_nonneg (Int.le_of_lt hc) q; exact z504 this h
    rcases Int.lt_or_le a 0 with qa | qa <;> rcases Int.lt_or_le b 0 with qb | qb
    · have : 0 < a * b := Int.mul_pos_of_neg_of_neg qa qb
      simp [qa, qb]; exact z277 this hkk e
    · have : a * b < 0 := Int.mul_neg_of_neg_of_pos qa (by exact z330 qb hkk hb0)
      simp [qa, Int.not_lt.mpr qb]; exact z294 hkk this e
    · have : a * b < 0 := Int.mul_neg_of_pos_of_neg (by exact z236 qa hkk qb ha0 hb0) qb
      simp [qb, Int.not_lt.mpr qa]; exact z294 hkk this e
    · have : 0 < a * b := Int.mul_pos (by exact z237 qa qb hkk ha0 hb0) (by exact z330 qb hkk hb0)
      simp [Int.not_lt.mpr qb, Int.not_lt.mpr qa]; exact z277 this hkk e
theorem FV.mul {x y : UInt64} {a b k : Int} (hx : FV x a) (hy : FV y b) (e : a * b = 2 * k) (h : k.natAbs < 2 ^ 53) : FV (Float64.mul x y) k := by
  obtain ⟨sx, mx, ex, dx, vx⟩ := hx
  obtain ⟨sy, my, ey, dy, vy⟩ := hy
  have := mul_right dx dy
  refine FV.ofRight this (Nat.two_pow_pos _) ?_ h (sign_mul sx sy (sign_of dx vx) (sign_of dy vy) ⟨2, by decide, e⟩)
  rw [vx, vy, natAbs_mul_pow, natAbs_mul_pow]
  have e1 : a.natAbs * b.natAbs = 2 * k.natAbs := by rw [← Int.natAbs_mul, e, Int.natAbs_mul]; rfl
  have e2 : (2 : Nat) ^ 1074 = 2 * 2 ^ 1073 := by rw [Nat.pow_succ, Nat.mul_comm]
  rw [e2]
  generalize (2 : Nat) ^ 1073 = P
  calc a.natAbs * P * (b.natAbs * P) = a.natAbs * b.natAbs * (P * P) := by ac_rfl
    _ = 2 * k.natAbs * (P * P) := by rw [e1]
    _ = 2 * P * (k.natAbs * P) := by ac_rfl
theorem FV.nz {x : UInt64} {a : Int} (hx : FV x a) (h : a ≠ 0) : ∃ s m e, decode x = .fin s m e ∧ m ≠ 0 := by
  obtain ⟨sx, mx, ex, dx, vx⟩ := hx
  refine ⟨_, _, _, dx, fun h0 => ?_⟩
  rw [val_eq dx, h0] at vx
  have : sgn sx (0 * 2 ^ (ex + 1074).toNat) = 0 := by unfold sgn; cases sx <;> simp
  rw [this] at vx
  rcases Int.mul_eq_zero.mp vx.symm with q | q
  · exact h q
  · exact absurd q (Int.ne_of_gt two_pow_pos')
theorem FV.div {x y : UInt64} {a b k : Int} (hx : FV x a) (hy : FV y b) (hb : b ≠ 0) (e : 2 * a = k * b) (h : k.natAbs < 2 ^ 53) : FV (Float64.div x y) k := by
  obtain ⟨s', m', e', d', hm⟩ := hy.nz hb
  obtain ⟨sx, mx, ex, dx, vx⟩ := hx
  obtain ⟨sy, my, ey, dy, vy⟩ := hy
  have hm : my ≠ 0 := by
    have q := dy.symm.trans d'
    injection q with q1 q2 q3
    rw [q2]; exact hm
  have := div_right dx dy hm
  have hv0 : 0 < (val y).natAbs := by rw [vy, natAbs_mul_pow]; exact Nat.mul_pos (by exact z44 hb ‹_› hm) (Nat.two_pow_pos _)
  refine FV.ofRight this hv0 ?_ h ?_
  · rw [vx, vy, natAbs_mul_pow, natAbs_mul_pow]
    have e1 : 2 * a.natAbs = k.natAbs * b.natAbs := by rw [← Int.natAbs_mul, ← e, Int.natAbs_mul]; rfl
    have e2 : (2 : Nat) ^ 1074 = 2 * 2 ^ 1073 := by rw [Nat.pow_succ, Nat.mul_comm]
    rw [e2]
    generalize (2 : Nat) ^ 1073 = P
    calc a.natAbs * P * (2 * P) = 2 * a.natAbs * (P * P) := by ac_rfl
      _ = k.natAbs * b.natAbs * (P * P) := by rw [e1]
      _ = b.natAbs * P * (k.natAbs * P) := by ac_rfl
  · rcases sign_mul (a := k) (b := b) (k := a) (decide (k < 0)) sy (fun _ => rfl) (sign_of dy vy) ⟨2, by decide, e.symm⟩ with q | q
    · left; rw [q] at e; rcases Int.mul_eq_zero.mp (by exact z353 e : k * b = 0) with h | h; exact h; exact absurd h hb
    · by_cases h0 : k = 0
      · exact .inl h0
      · right
        have ha0 : a ≠ 0 := by rintro rfl; rcases Int.mul_eq_zero.mp (by exact z353 e : k * b = 0) with h | h; exact h0 h; exact hb h
        have e1 := sign_of dx vx ha0
        have e2 := sign_of dy vy hb
        rw [e1, ← q]
        cases sy <;> cases decide (k < 0) <;> rfl
end
section
open PySem PySem.W PyProof.Rows PySem.Float64
variable [Lo]
section
variable {c : Cfg} {n : Nat}
theorem FV.noInf {x : UInt64} {k : Int} (h : FV x k) : ¬ isInf x = true := by
  obtain ⟨a, m, e, d, _⟩ := h; unfold isInf; rw [d]; simp
theorem FV.isFin {x : UInt64} {k : Int} (h : FV x k) : isFinite x = true := by
  obtain ⟨a, m, e, d, _⟩ := h; unfold isFinite; rw [d]
theorem FV.noZero {x : UInt64} {k : Int} (h : FV x k) (hk : k ≠ 0) : ¬ isZero x = true := by
  obtain ⟨a, m, e, d, hm⟩ := h.nz hk
  unfold isZero; rw [d]
  cases m with
  | zero => exact absurd rfl hm
  | succ m => simp
theorem FV.frac {a b k : Int} (hb : b ≠ 0) (e : 2 * a = k * b) (h : k.natAbs < 2 ^ 53) : FV (ofFrac (decide (a < 0) != decide (b < 0)) a.natAbs b.natAbs) k := by
  have hr := ofFrac_right (neg := (decide (a < 0) != decide (b < 0))) (n := a.natAbs) (d := b.natAbs) (W := k.natAbs * 2 ^ 1073) (D := 1) (by exact z130 hb) (by
    rw [Nat.mul_one, show (2 : Nat) ^ 1074 = 2 * 2 ^ 1073 from by rw [Nat.pow_succ, Nat.mul_comm]]
    have e1 : 2 * a.natAbs = k.natAbs * b.natAbs := by rw [← Int.natAbs_mul, ← e, Int.natAbs_mul]; rfl
    generalize (2 : Nat) ^ 1073 = P
    calc a.natAbs * (2 * P) = 2 * a.natAbs * P := by ac_rfl
      _ = k.natAbs * b.natAbs * P := by rw [e1]
      _ = k.natAbs * P * b.natAbs := by ac_rfl) (by decide)
  refine FV.ofRight hr (by decide) (by rw [Nat.one_mul]) h ?_
  by_cases h0 : k = 0
  · exact .inl h0
  · right
    have hk : (decide (k < 0) != decide (b < 0)) = decide (a < 0) := by
      rcases sign_mul (a := k) (b := b) (k := a) (decide (k < 0)) (decide (b < 0)) (fun _ => rfl) (fun _ => rfl) ⟨2, by decide, e.symm⟩ with q | q
      · rw [q] at e; rcases Int.mul_eq_zero.mp (by exact z353 e : k * b = 0) with h | h
        · exact absurd h h0
        · exact absurd h hb
      · exact q
    rw [← hk]
    cases decide (b < 0) <;> cases decide (k < 0) <;> rfl
theorem Op2.itrue (a b k : Int) (hb : b ≠ 0) (e : 2 * a = k * b) (h : k.natAbs < 2 ^ 53) : Op2 c n (binaryOp .Div) (.int a) (.int b) (.flt k) := fun A X s E v w _ _ _ r q => by
  obtain ⟨_, rfl⟩ := r.inv; obtain ⟨_, rfl⟩ := q.inv
  have hf := FV.frac hb e h
  exact AutoIntOps.truediv_2 (by simpa using hb) hf.noInf ⟨.flt _ _ _ hf, .tok⟩
theorem Op2.ftrue (a b k : Int) (hb : b ≠ 0) (e : a = k * b) (h : k.natAbs < 2 ^ 53) (hb' : (2 * b).natAbs < 2 ^ 53) : Op2 c n (binaryOp .Div) (.flt a) (.int b) (.flt k) := fun A X s E v w _ _ _ r q => by
  obtain ⟨x, t, hx, rfl⟩ := r.inv
  obtain ⟨_, rfl⟩ := q.inv
  have hy := FV.ofInt hb'
  exact AutoFloatOps.truediv_fi_2 hy.noInf (hy.noZero (by exact z211 hb)) ⟨.flt _ _ _ (hx.div hy (by exact z211 hb) (by rw [e]; rw [Int.mul_left_comm]) h), .tok⟩
theorem Op2.fmul_if (a b : Int) (h : (2 * a).natAbs < 2 ^ 53) (h' : (a * b).natAbs < 2 ^ 53) : Op2 c n (binaryOp .Mult) (.int a) (.flt b) (.flt (a * b)) := fun A X s E v w _ _ _ r q => by
  obtain ⟨_, rfl⟩ := r.inv
  obtain ⟨x, t, hx, rfl⟩ := q.inv
  have hy := FV.ofInt h
  exact AutoFloatOps.mul_if_1 hy.noInf ⟨.flt _ _ _ (hy.mul hx (Int.mul_assoc ..) h'), .tok⟩
end
end
section
open PySem PySem.W PyProof.Rows PySem.Float64
variable [Lo]
theorem kind_fsum : builtinKind "math.fsum" = none := by decide +kernel
theorem plain_fsum : plainId "math.fsum" = true := by decide +kernel
theorem plain_fsum_loop : plainId "math.fsum.loop" = true := by decide +kernel
theorem entry_fsum : entryFor table "math.fsum" = some Builtin.«math.fsum» := entryFor_of_fast (by kernel_rfl)
theorem entry_fsum_loop : entryFor table "math.fsum.loop" = some Builtin.«math.fsum.loop» := entryFor_of_fast (by kernel_rfl)
theorem args_fsum (a : Value) : argsOk "math.fsum" ⟨[a], []⟩ := by unfold argsOk; kernel_rfl
/-- numbers, doubled -/
noncomputable def dbl : D → Int
  | .int i => 2 * i
  | .flt k => k
  | _ => 0
noncomputable def isNum : D → Bool
  | .int _ => true
  | .flt _ => true
  | _ => false
theorem FV.isZ {x : UInt64} (h : FV x 0) : isZero x = true := by
  obtain ⟨a, m, e, d, v⟩ := h
  rw [val_eq d] at v
  have hm : m = 0 := by
    rcases Nat.eq_zero_or_pos m with h | h
    · exact h
    · exfalso
      have h2 : 0 < m * 2 ^ (e + 1074).toNat := Nat.mul_pos h (Nat.two_pow_pos _)
      generalize m * 2 ^ (e + 1074).toNat = N at h2 v
      unfold sgn at v
      cases a <;> simp at v <;> exact z537 h2 v
  subst hm
  unfold isZero; rw [d]; rfl
/-- what the partials hold: no more than one float -/
noncomputable def Part1 (ps : List UInt64) (k : Int) : Prop := (ps = [] ∧ k = 0) ∨ ∃ x, ps = [x] ∧ FV x k
theorem fsumAdd_step {ps : List UInt64} {x : UInt64} {k b : Int} (p : Part1 ps k) (hx : FV x b) (h : (k + b).natAbs < 2 ^ 53) (hk : k.natAbs < 2 ^ 53) (hb : b.natAbs < 2 ^ 53) :
    isFinite (fsumAdd ps x).2 = true ∧ Part1 (if isZero (fsumAdd ps x).2 = true then (fsumAdd ps x).1 else (fsumAdd ps x).1 ++ [(fsumAdd ps x).2]) (k + b) := by
  have fin : ∀ (y : UInt64) (j : Int), FV y j → isFinite y = true ∧ Part1 (if isZero y = true then ([] : List UInt64) else [] ++ [y]) j := fun y j hy => by
    refine ⟨hy.isFin, ?_⟩
    by_cases hj : j = 0
    · subst hj; rw [if_pos hy.isZ]; exact .inl ⟨rfl, rfl⟩
    · rw [if_neg (hy.noZero hj)]; exact .inr ⟨y, rfl, hy⟩
  rcases p with ⟨rfl, rfl⟩ | ⟨y, rfl, hy⟩
  · simp only [fsumAdd]
    rw [Int.zero_add]; exact fin x b hx
  · unfold fsumAdd
    by_cases hl : lt (abs x) (abs y) = true
    · simp only [hl, if_true]
      have h1 := hy.add hx h
      have h2 := h1.sub hy (by exact z89 hb)
      have h3 := hx.sub h2 (by exact z266)
      have h4 := (show FV _ 0 by have := h3; rwa [show b - (k + b - k) = 0 from by exact z375] at this).isZ
      simp only [h4, if_true, fsumAdd]
      exact fin _ _ h1
    · simp only [hl, if_false, Bool.false_eq_true]
      have h1 := hx.add hy (by rw [Int.add_comm]; exact h)
      have h2 := h1.sub hx (by exact z89 hk)
      have h3 := hy.sub h2 (by exact z266)
      have h4 := (show FV _ 0 by have := h3; rwa [show k - (b + k - b) = 0 from by exact z375] at this).isZ
      simp only [h4, if_true, fsumAdd]
      rw [Int.add_comm k b]
      exact fin _ _ h1
theorem fsumEnd_of {ps : List UInt64} {k : Int} (p : Part1 ps k) : FV (fsumEnd ps) k := by
  rcases p with ⟨rfl, rfl⟩ | ⟨y, rfl, hy⟩
  · unfold fsumEnd; exact FV.zero false
  · unfold fsumEnd
    simp only [List.reverse_cons, List.reverse_nil, List.nil_append, fsumTop]
    exact hy
theorem not_over {n : Int} {k : Int} (h : FV (ofInt n) k) : ¬ PySem.Flt.Over n := fun o => h.noInf (PySem.Flt.inf_of_over o)
section
variable {c : Cfg} {n : Nat} {A : Around} {E : Value → Shared → Prop} {s : Shared}
theorem realArg_num {X : List Addr} {v : Value} {d : D} {Q : UInt64 → Shared → Prop} (hA : A.handled = none) (r : Rep s.heap X v d) (hd : isNum d = true) (hb : (dbl d).natAbs < 2 ^ 53) (h : ∀ x tk, FV x (dbl d) → Q x { s with toks := tk }) :
    wpAny (model c.prog c.w) A (Builtin.Math.realArg v) Q E s := by
  cases d with
  | int i =>
    obtain ⟨t, rfl⟩ := r.inv
    have hf : FV (ofInt i) (2 * i) := FV.ofInt hb
    exact PySem.Flt.realArg_int hA (fun o => absurd o (not_over hf)) fun _ => h _ _ hf
  | flt k =>
    obtain ⟨x, t, hk, rfl⟩ := r.inv
    have : wpAny (model c.prog c.w) A (pure x) Q E s := wpAny_pure (h x s.toks hk)
    exact this
  | _ => exact ft_ hd
noncomputable def bits (xs : List UInt64) : List Value := xs.map fun x => rawInt x.toNat
theorem wp_unbits {M : Model} {P : Addr} {ps : List UInt64} {g : Value → UInt64} (h : Plain s.heap "tuple" P (bits ps)) (hg : ∀ x : UInt64, g (rawInt x.toNat) = x) :
    wpAny M A (seqItems? (.ref P) >>= fun r => pure ((r.getD #[]).toList.map g)) (fun qs s' => qs = ps ∧ s' = s) E s := by
  obtain ⟨m, e⟩ := h
  refine wpAny_bind (wpAny_seqItems e rfl (wpAny_pure ⟨?_, rfl⟩))
  show ((bits ps).toArray.toList).map g = ps
  rw [List.toList_toArray]
  unfold bits
  rw [List.map_map]
  conv => rhs; rw [← List.map_id ps]
  exact List.map_congr_left fun x _ => hg x
theorem back64 (x : UInt64) : ((x.toNat : Int)).toNat.toUInt64 = x := by simp
theorem nums_part {ds : List D} (hb : ∀ d ∈ ds, (dbl d).natAbs ≤ 2 ^ 40) (hl : ds.length ≤ lim) (i : Nat) : (((ds.take i).map dbl).sum).natAbs ≤ i * 2 ^ 40 := by
  induction i with
  | zero => simp
  | succ i ih =>
    rw [List.take_add_one]
    cases h : ds[i]? with
    | none => rw [Option.toList_none, List.append_nil]; exact Nat.le_trans ih (Nat.mul_le_mul_right _ (Nat.le_succ _))
    | some d =>
      have hd := hb d (List.mem_of_getElem? h)
      simp only [Option.toList_some, List.map_append, List.map_cons, List.map_nil, List.sum_append, List.sum_cons, List.sum_nil]
      exact z11 hd ih
theorem nums_small {ds : List D} (hb : ∀ d ∈ ds, (dbl d).natAbs ≤ 2 ^ 40) (hl : ds.length ≤ lim) (i : Nat) : (((ds.take i).map dbl).sum).natAbs < 2 ^ 53 := by
  rcases Nat.le_total i ds.length with h | h
  · have := nums_part hb hl i
    have h2 : i * 2 ^ 40 ≤ 4096 * 2 ^ 40 := Nat.mul_le_mul_right _ (Nat.le_trans h hl)
    exact z284 h2 this
  · rw [List.take_of_length_le h]
    have := nums_part hb hl ds.length
    rw [List.take_of_length_le (Nat.le_refl _)] at this
    have h2 : ds.length * 2 ^ 40 ≤ 4096 * 2 ^ 40 := Nat.mul_le_mul_right _ hl
    exact z284 h2 this
theorem fsum_loop {I a : Addr} {vs : List Value} {ds : List D} {X : List Addr} {R : Result → Shared → Prop} (hh : A.handled = none) (hne : a ≠ I) (hn : ∀ d ∈ ds, isNum d = true) (hb : ∀ d ∈ ds, (dbl d).natAbs ≤ 2 ^ 40) (hl : ds.length ≤ lim) :
    ∀ (k i : Nat) (s : Shared) (P S : Addr) (ps : List UInt64), ds.length - i = k → i ≤ ds.length → Reps s.heap X vs ds → I ∉ X → (s.heap.IsListIter I a i ∧ s.heap.IsList a vs.toArray) → Plain s.heap "tuple" P (bits ps) → Plain s.heap "tuple" S (bits [zero false, zero false]) → Part1 ps ((ds.take i).map dbl).sum →
      (∀ h' tk x t, FV x (ds.map dbl).sum → (∀ b o, b ≠ I → s.heap.get? b = some o → h'.get? b = some o) → R (.ok (.ret (.float x t))) { s with heap := h', toks := tk }) →
      codeAny (model c.prog c.w) A (.builtin "math.fsum.loop" ⟨[.ref I, .ref P, .ref S], []⟩) R s := by
  intro k
  induction k with
  | zero =>
    intro i s P S ps hk hi rs hIX st hP hS hp hR
    have hin : i = ds.length := by exact z231 hk hi
    subst hin
    obtain ⟨mp, eP⟩ := hP
    obtain ⟨mq, eS⟩ := hS
    refine codeAny_builtin entry_fsum_loop ?_
    rw [Around.under_plainId plain_fsum_loop _]
    unfold Builtin.«math.fsum.loop»
    refine wpAny_bind (then_ (P := fun qs s' => qs = ps ∧ s' = s) ?_ ?_)
    · show wpAny _ A.in1 (seqItems? (.ref P) >>= fun r => pure ((r.getD #[]).toList.map _)) _ _ s
      exact wp_unbits ⟨_, eP⟩ back64
    rintro qs s' ⟨rfl, rfl⟩
    refine wpAny_bind (then_ (P := fun rs s'' => rs = [zero false, zero false] ∧ s'' = s') ?_ ?_)
    · show wpAny _ A.in1 (seqItems? (.ref S) >>= fun r => pure ((r.getD #[]).toList.map _)) _ _ s'
      exact wp_unbits ⟨_, eS⟩ back64
    rintro _ s ⟨rfl, rfl⟩
    have W := Walks.list (prog := c.prog) (w := c.w) (A := A.in1) hh I a hne vs.toArray
    refine wpAny_bind (W.done s _ _ (by rw [List.size_toArray, rs.length]; exact st) fun h' tk hk => ?_)
    have hz : isZero (zero false) = true := (FV.zero false).isZ
    simp only [hz, Bool.not_true, Bool.false_eq_true, if_false]
    rw [List.take_length] at hp
    exact wpAny_bind (PySem.Flt.wp_mkFloat (wpAny_pure (hR h' (tk + 1) _ _ (fsumEnd_of hp) fun b o hb e => hk b o (by simpa using hb) e)))
  | succ k ih =>
    intro i s P S ps hk hi rs hIX st hP hS hp hR
    have hlt : i < ds.length := by exact z208 hk hi
    have hP' := hP
    have hS' := hS
    obtain ⟨mp, eP⟩ := hP
    obtain ⟨mq, eS⟩ := hS
    refine codeAny_builtin entry_fsum_loop ?_
    rw [Around.under_plainId plain_fsum_loop _]
    unfold Builtin.«math.fsum.loop»
    refine wpAny_bind (then_ (P := fun qs s' => qs = ps ∧ s' = s) ?_ ?_)
    · show wpAny _ A.in1 (seqItems? (.ref P) >>= fun r => pure ((r.getD #[]).toList.map _)) _ _ s
      exact wp_unbits ⟨_, eP⟩ back64
    rintro qs s' ⟨rfl, rfl⟩
    refine wpAny_bind (then_ (P := fun rs s'' => rs = [zero false, zero false] ∧ s'' = s') ?_ ?_)
    · show wpAny _ A.in1 (seqItems? (.ref S) >>= fun r => pure ((r.getD #[]).toList.map _)) _ _ s'
      exact wp_unbits ⟨_, eS⟩ back64
    rintro _ s ⟨rfl, rfl⟩
    have W := Walks.list (prog := c.prog) (w := c.w) (A := A.in1) hh I a hne vs.toArray
    refine wpAny_bind (W.item i s _ _ (by rw [List.size_toArray, rs.length]; exact hlt) st fun v h' tk hv st' hk' => ?_)
    obtain ⟨d, hd, rv⟩ := rs.get' (show vs[i]? = some v by simpa using hv)
    have hdm := List.mem_of_getElem? hd
    have hsmall : (dbl d).natAbs < 2 ^ 53 := Nat.lt_of_le_of_lt (hb d hdm) (by decide)
    have notI : ∀ {h : Heap} {b : Addr} {T : String} {us : Array Value} {m : Nat}, h.IsListIter I a i → h.get? b = some { cls := .type T, data := .seq us m } → b ≠ I := by
      rintro h b T us m ⟨o, e, hc, hd'⟩ e' rfl
      rw [e] at e'; obtain rfl := Option.some.inj e'; cases hd'
    have rv' : Rep h' X v d := rv.keep fun b T us m _ e => hk' b _ (by simpa using notI st.1 e) e
    refine wpAny_bind (wpAny_holding (realArg_num (c := c) (A := A.in1) (s := { s with heap := h', toks := tk }) hh rv' (hn d hdm) hsmall fun x tk' hx => ?_))
    have e1 : ((ds.take (i + 1)).map dbl).sum = ((ds.take i).map dbl).sum + dbl d := by
      rw [List.take_add_one, hd]; simp
    obtain ⟨hf, hp'⟩ := fsumAdd_step hp hx (by rw [← e1]; exact nums_small hb hl _) (nums_small hb hl _) hsmall
    simp only [hf, if_true]
    generalize (if isZero (fsumAdd qs x).2 = true then (fsumAdd qs x).1 else (fsumAdd qs x).1 ++ [(fsumAdd qs x).2]) = ps' at hp' ⊢
    refine wpAny_bind ?_
    show wpAny _ A.in1 (newTuple (bits ps')) _ _ _
    have hlen : (bits ps').length ≤ sizeLine := by
      rcases hp' with ⟨rfl, _⟩ | ⟨x, rfl, _⟩ <;> exact Nat.le_trans (by simp [bits]) (show 1 ≤ sizeLine by decide)
    refine wpAny_newTuple ?_ hlen
    have kp1 : ∀ b o, b ≠ I → s.heap.get? b = some o → (h'.push { cls := .type "tuple", data := .seq (bits ps').toArray }).get? b = some o := fun b o hb e => Heap.get?_push_of_some _ (hk' b o (by simpa using hb) e)
    refine wpAny_pure ⟨plainId_quiet plain_fsum_loop _, ih (i + 1) _ h'.objs.size S ps' (by exact z53 hk hlt) hlt (rs.keep fun b T us m hbX e => kp1 b _ (notI st.1 e) e) hIX ⟨(by obtain ⟨o, e, r⟩ := st'.1; exact ⟨o, Heap.get?_push_of_some _ e, r⟩), st'.2.push _⟩ ⟨0, Heap.get?_push_size _ rfl⟩ ?_ (by rw [e1]; exact hp') fun h'' tk'' x' t hx' hk'' => ?_⟩
    · exact ⟨mq, kp1 _ _ (notI st.1 eS) eS⟩
    · exact hR h'' tk'' x' t hx' fun b o hb e => hk'' b o hb (kp1 b o hb e)
theorem Fn.fsum (ds : List D) (hn : ∀ d ∈ ds, isNum d = true) (hb : ∀ d ∈ ds, (dbl d).natAbs ≤ 2 ^ 40) : Fn c n (.builtin "math.fsum") [.list ds] [] (.flt (ds.map dbl).sum) := .of1 (fun _ => .builtin _) fun A X s E v hA hW hX r => by
  obtain ⟨a, vs, ⟨ha, p, hl, rs⟩, rfl⟩ := r.inv
  refine call_function_tree kind_fsum plain_fsum entry_fsum (args_fsum _) ?_
  show wpAny _ A.in1 (pyIter (.ref a) >>= fun it => _) _ _ s
  refine wpAny_bind (wpAny_pyIter_list p.isList ?_)
  refine wpAny_bind ?_
  show wpAny _ A.in1 (newTuple (bits [])) _ _ _
  refine wpAny_newTuple ?_ (by decide)
  refine wpAny_bind ?_
  show wpAny _ A.in1 (newTuple (bits [zero false, zero false])) _ _ _
  refine wpAny_newTuple ?_ (by decide)
  have hne : a ≠ s.heap.objs.size := by obtain ⟨m, e⟩ := p; exact Nat.ne_of_lt (Heap.lt_size e)
  have hIX : s.heap.objs.size ∉ X := hX.new
  refine wpAny_pure ⟨plainId_quiet plain_fsum_loop _, fsum_loop (c := c) (A := A) (X := X) (vs := vs) hA.handled hne hn hb hl ds.length 0 _ _ _ [] rfl (Nat.zero_le _) ?_ hIX ⟨?_, ?_⟩ ⟨0, ?_⟩ ⟨0, Heap.get?_push_size _ rfl⟩ (.inl ⟨rfl, rfl⟩) fun h' tk x t hx hk => ?_⟩
  · exact rs.keep fun b T us m _ e => Heap.get?_push_of_some _ (Heap.get?_push_of_some _ (Heap.get?_push_of_some _ e))
  · exact ⟨_, Heap.get?_push_of_some _ (Heap.get?_push_of_some _ (Heap.get?_push_size _ rfl)), rfl, rfl⟩
  · exact ((p.isList.push _).push _).push _
  · exact Heap.get?_push_of_some _ (Heap.get?_push_size _ rfl)
  · refine ⟨.flt _ _ _ hx, ⟨.of fun b o e => hk b o ?_ (Heap.get?_push_of_some _ (Heap.get?_push_of_some _ (Heap.get?_push_of_some _ e))), rfl, fun x => x⟩⟩
    rintro rfl
    exact Nat.lt_irrefl _ (Heap.lt_size e)
end
end
section
open PySem PySem.W PyProof.Rows PySem.Float64
variable [Lo]
theorem sgn_times (a b : Bool) (m k : Nat) : sgn a m * sgn b k = sgn (a != b) (m * k) := by
  unfold sgn
  cases a <;> cases b <;> simp [Int.natCast_mul, Int.neg_mul, Int.mul_neg]
theorem toNats {p q r t : Int} (hp : 0 ≤ p) (hq : 0 ≤ q) (hr : 0 ≤ r) (ht : 0 ≤ t) (e : p + q = r + t) : p.toNat + q.toNat = r.toNat + t.toNat := by
  rw [← Int.toNat_add hp hq, ← Int.toNat_add hr ht, e]
theorem four_int (x y m : Int) : x + y - m + (m + 2148) = x + 1074 + (y + 1074) := by exact z343
theorem three_int (z m : Int) : z - m + (m + 2148) = z + 1074 + 1074 := by exact z407
theorem fma_zero {x y z : UInt64} {a b k : Int} (hx : FV x a) (hy : FV y b) (hz : FV z (-k)) (e : a * b = 2 * k) : FV (fma x y z) 0 := by
  obtain ⟨sx, m, ex, dx, vx⟩ := hx
  obtain ⟨sy, j, ey, dy, vy⟩ := hy
  obtain ⟨sz, n, ez, dz, vz⟩ := hz
  have hex := decode_ge dx
  have hey := decode_ge dy
  have hez := decode_ge dz
  rw [val_eq dx] at vx
  rw [val_eq dy] at vy
  rw [val_eq dz] at vz
  have key : sgn (sx != sy) (m * j * 2 ^ (ex + ey - min (ex + ey) ez).toNat) + sgn sz (n * 2 ^ (ez - min (ex + ey) ez).toNat) = 0 := by
    have hpos : ((2 ^ (min (ex + ey) ez + 2148).toNat : Nat) : Int) ≠ 0 := by
      have := Nat.two_pow_pos (min (ex + ey) ez + 2148).toNat
      exact z387 this
    refine (Int.mul_eq_zero.mp ?_).resolve_right hpos
    rw [Int.add_mul, ← sgn_mul, ← sgn_mul, Nat.mul_assoc, Nat.mul_assoc, Nat.mul_assoc n, ← Nat.pow_add, ← Nat.pow_add]
    have hm : -2148 ≤ min (ex + ey) ez := Int.le_min.mpr ⟨Int.add_le_add hex hey, Int.le_trans (by decide) hez⟩
    have hm' : 0 ≤ min (ex + ey) ez + 2148 := Int.add_le_add_right hm 2148
    have e1 : (ex + ey - min (ex + ey) ez).toNat + (min (ex + ey) ez + 2148).toNat = (ex + 1074).toNat + (ey + 1074).toNat :=
      toNats (Int.sub_nonneg_of_le (Int.min_le_left _ _)) hm' (Int.add_le_add_right hex 1074) (Int.add_le_add_right hey 1074) (four_int _ _ _)
    have e2 : (ez - min (ex + ey) ez).toNat + (min (ex + ey) ez + 2148).toNat = (ez + 1074).toNat + 1074 :=
      toNats (t := 1074) (Int.sub_nonneg_of_le (Int.min_le_right _ _)) hm' (Int.add_le_add_right hez 1074) (by decide) (three_int _ _)
    rw [e1, e2, Nat.pow_add, Nat.pow_add]
    have h1 : sgn (sx != sy) (m * (j * (2 ^ (ex + 1074).toNat * 2 ^ (ey + 1074).toNat))) = sgn sx (m * 2 ^ (ex + 1074).toNat) * sgn sy (j * 2 ^ (ey + 1074).toNat) := by
      rw [sgn_times]; congr 1; ac_rfl
    have h2 : sgn sz (n * (2 ^ (ez + 1074).toNat * 2 ^ 1074)) = sgn sz (n * 2 ^ (ez + 1074).toNat) * 2 ^ 1074 := by
      rw [← Nat.mul_assoc, sgn_mul]; rfl
    rw [h1, h2, vx, vy, vz, pow1074]
    generalize (2 : Int) ^ 1073 = P
    have : a * P * (b * P) + -k * P * (2 * P) = (a * b - 2 * k) * (P * P) := by
      rw [Int.sub_mul, Int.neg_mul, Int.neg_mul, Int.sub_eq_add_neg]
      congr 1
      · ac_rfl
      · congr 1; ac_rfl
    rw [this, e, Int.sub_self, Int.zero_mul]
  unfold fma
  rw [dx, dy, dz]
  simp only [align, key]
  exact FV.zero _
theorem FV.cast {x : UInt64} {a b : Int} (h : FV x a) (e : a = b) : FV x b := e ▸ h
theorem dlSum_of {x y : UInt64} {a b : Int} (hx : FV x a) (hy : FV y b) (h : (a + b).natAbs < 2 ^ 53) (ha : a.natAbs < 2 ^ 53) (hb : b.natAbs < 2 ^ 53) : FV (Builtin.Math.dlSum x y).1 (a + b) ∧ FV (Builtin.Math.dlSum x y).2 0 := by
  have h1 := hx.add hy h
  have h2 := (h1.sub hx (by rw [show a + b - a = b from by exact z304]; exact hb)).cast (show a + b - a = b from by exact z304)
  have h3 := (h1.sub h2 (by rw [show a + b - b = a from by exact z364]; exact ha)).cast (show a + b - b = a from by exact z364)
  have h4 := (hx.sub h3 (by rw [Int.sub_self]; decide)).cast (Int.sub_self a)
  have h5 := (hy.sub h2 (by rw [Int.sub_self]; decide)).cast (Int.sub_self b)
  exact ⟨h1, (h4.add h5 (by decide)).cast (Int.add_zero 0)⟩
/-- the running sum of products -/
structure Three (t : UInt64 × UInt64 × UInt64) (k : Int) : Prop where
  hi : FV t.1 k
  lo : FV t.2.1 0
  tiny : FV t.2.2 0
theorem tlFma_of {x y : UInt64} {t : UInt64 × UInt64 × UInt64} {a b j k : Int} (hx : FV x a) (hy : FV y b) (e : a * b = 2 * j) (T : Three t k) (h : (k + j).natAbs < 2 ^ 53) (hk : k.natAbs < 2 ^ 53) (hj : j.natAbs < 2 ^ 53) : Three (Builtin.Math.tlFma x y t) (k + j) := by
  have p1 : FV (Builtin.Math.dlMul x y).1 j := hx.mul hy e hj
  have p2 : FV (Builtin.Math.dlMul x y).2 0 := fma_zero hx hy p1.neg e
  obtain ⟨s1, s2⟩ := dlSum_of T.hi p1 h hk hj
  obtain ⟨r1, r2⟩ := dlSum_of T.lo p2 (by decide) (by decide) (by decide)
  obtain ⟨q1, q2⟩ := dlSum_of (r1.cast (Int.add_zero 0)) s2 (by decide) (by decide) (by decide)
  exact ⟨s1, q1.cast (Int.add_zero 0), ((T.tiny.add r2 (by decide)).add q2 (by decide)).cast (by decide)⟩
theorem tlToFloat_of {t : UInt64 × UInt64 × UInt64} {k : Int} (T : Three t k) (hk : k.natAbs < 2 ^ 53) : FV (Builtin.Math.tlToFloat t) k := by
  obtain ⟨s1, s2⟩ := dlSum_of T.lo T.hi (by rw [Int.zero_add]; exact hk) (by decide) hk
  have h1 := T.tiny.add s2 (by decide)
  have h2 := h1.add s1 (by simpa using hk)
  exact h2.cast (by simp)
end
section
open PySem PySem.W PyProof.Rows PySem.Float64
variable [Lo]
theorem tab_not {o : Obj} (h : (∀ vs, o.data ≠ .fields vs) ∨ o.cls ≠ .none) : tab o = false := tab_no h
theorem tab_dict {o : Obj} {es : Array DictEntry} {n : Nat} (h : o.data = .dict es n) : tab o = false := tab_not (.inl (by rw [h]; exact fun _ e => Data.noConfusion e))
theorem tab_cell {o : Obj} {v : Option Value} (h : o.data = .cell v) : tab o = false := tab_not (.inl (by rw [h]; exact fun _ e => Data.noConfusion e))
/-- all but tables stand to the letter -/
noncomputable def Exact (h h' : Heap) : Prop := ∀ b o, h.get? b = some o → tab o = false → h'.get? b = some o
theorem isCode_elim {h : Heap} {c P : Addr} {ps : Array Value} {β : Prop} (x : h.IsCode c P ps) (k : ∀ o vs file tf flags tg inF text tt op, h.get? c = some o → o.data = .fields vs → vs.getD 11 .none = .ref P → vs.getD 18 .none = .str file tf →
    vs.getD 7 .none = .int flags tg → vs.getD 9 .none = .bool inF → vs.getD 10 .none = .int text tt → h.get? P = some op → op.data = .fields ps → TriplesOk ps.toList → c ≠ P → β) : β := by
  obtain ⟨o, vs, file, tf, flags, tg, inF, text, tt, op, ho, hd, h11, h2, h7, h9, h10, hop, hpd, htr, hne⟩ := x
  exact k _ _ _ _ _ _ _ _ _ _ ho hd h11 h2 h7 h9 h10 hop hpd htr hne
theorem isCode_tr {h : Heap} {c P : Addr} {ps : Array Value} (x : h.IsCode c P ps) : TriplesOk ps.toList := isCode_elim x fun _ _ _ _ _ _ _ _ _ _ _ _ _ _ _ _ _ _ _ htr _ => htr
/-- a code whose table of places can be looked up, and may grow -/
noncomputable def CodeTab (h : Heap) (cc : Addr) : Prop := ∃ P ps, P ∈ Lo.tabs ∧ h.IsCode cc P ps ∧ h.TableAt cc P ps
theorem Keep.codeTab {h h' : Heap} (k : Keep h h') {cc : Addr} (x : CodeTab h cc) : CodeTab h' cc := by
  obtain ⟨P, ps, hP, hok, ⟨⟨oc, vc, hoc, hcc, hdc, h11c⟩, hT⟩⟩ := x
  have htr' : TriplesOk ps.toList := isCode_tr hok
  obtain ⟨o', e', t⟩ := k.all P _ hT
  have key : ∃ qs, o' = { cls := .none, data := .fields qs } ∧ TriplesOk qs.toList := by
    generalize hq : ({ cls := .none, data := .fields ps } : Obj) = o₂ at t
    cases t with
    | same => exact ⟨ps, hq.symm, htr'⟩
    | table h1 h2 => cases hq; exact ⟨_, rfl, h2 htr'⟩
    | frame sl h1 _ => rw [← hq] at h1; cases h1
  obtain ⟨qs, rfl, hqs⟩ := key
  have hoc' := k.at' _ _ hoc (soft_fields hcc hdc)
  refine isCode_elim hok fun o vs file tf flags tg inF text tt op ho hd h11 h2 h7 h9 h10 _ _ _ hne => ?_
  have ho' : h'.get? cc = some o := hoc'.trans (hoc.symm.trans ho)
  exact ⟨P, qs, hP, ⟨o, vs, file, tf, flags, tg, inF, text, tt, _, ho', hd, h11, h2, h7, h9, h10, e', rfl, hqs, hne⟩, ⟨⟨oc, vc, hoc', hcc, hdc, h11c⟩, e'⟩⟩
/-- where the builtins of main stand -/
noncomputable def BMain (h : Heap) : Prop := ∃ mg bm ob, h.Ns mainGlobals mg ∧ mg "__builtins__" = some (.ref bm) ∧ bm ≠ builtinsNs ∧ h.get? bm = some ob ∧ ob.cls = .type "module" ∧ ob.dict = some builtinsNs ∧ ob.data = .plain
theorem Keep.bmain {h h' : Heap} (k : Keep h h') (x : BMain h) : BMain h' := by
  obtain ⟨mg, bm, ob, h1, h2, h3, h4, h5, h6⟩ := x
  exact ⟨mg, bm, ob, k.ns h1, h2, h3, k.at' _ _ h4 (soft_of (by rw [h6.2]; exact fun _ _ e => Data.noConfusion e) (.inl (by rw [h6.2]; exact fun _ e => Data.noConfusion e))), h5, h6⟩
section
variable {c : Cfg} {n : Nat} {names : Names} {o : Own} {ρ : Vars} {A : Around} {E : Value → Shared → Prop} {s : Shared} {env : Env} {X : List Addr}
theorem wpAny_code {cc : Addr} {pos : Pos} {q : Str} {scope : Scope} {Q : Value → Shared → Prop} (hc : env.code = .ref cc) (x : CodeTab s.heap cc) (h : ∀ v s', Kp s s' → s'.gens = s.gens → Exact s.heap s'.heap → Q v s') : wpAny (model c.prog c.w) A (genexprCode env pos q scope) Q E s := by
  obtain ⟨P, ps, hP, hok, htab⟩ := x
  cases hf : codeAmong pos ps.toList with
  | some c' => exact wpAny_genexprCode_hit hc hok hf (h _ _ (.refl _) rfl fun _ _ e _ => e)
  | none =>
    refine wpAny_genexprCodeX hc hok htab hf fun c' h' tk ext hc' _ hok' _ htab' _ => h _ _ ⟨⟨fun b ob e => ?_⟩, rfl, fun x => x⟩ rfl fun b ob e t => ext b ob (by rintro rfl; rw [htab.2] at e; obtain rfl := Option.some.inj e; cases t) e
    by_cases hb : b = P
    · subst hb
      rw [htab.2] at e; obtain rfl := Option.some.inj e
      refine ⟨_, htab'.2, .table hP fun _ => ?_⟩
      exact isCode_tr hok'
    · exact ⟨_, ext b ob hb e, .same _⟩
theorem wpAny_bmain {r : Addr} {Q : Addr → Shared → Prop} (x : BMain s.heap) (h : Q builtinsNs s) : wpAny (model c.prog c.w) A (builtinsFor mainGlobals r) Q E s := by
  obtain ⟨mg, bm, ob, h1, h2, h3, h4, h5, h6, h7⟩ := x
  exact wpAny_builtinsFor h1 h2 h3 h4 h5 h6 h7 h
/-- a generator that is ready to hand out -/
structure GenReady (c : Cfg) (A : Around) (h₀ : Heap) (a : Addr) (g : Nat) (C I : Addr) (olds : List Addr) (F : Nat → Value → Prop) (n₀ : Nat) (s : Shared) : Prop where
  gen : GenAt c.prog c.w A a g C (I :: olds) [I] (fun _ => true) n₀ F 0 s
  cs : cStatics ∈ olds
  old : ∀ b ∈ olds, Here h₀ b
  na : h₀.get? a = none
  nC : h₀.get? C = none
  nI : h₀.get? I = none
  aC : a ≠ C
  aI : a ≠ I
  CI : C ≠ I
  typed : ∀ b ∈ a :: C :: I :: olds, ∃ o, s.heap.get? b = some o ∧ tab o = false
  oldk : ∀ b ∈ olds, b = cStatics ∨ ∃ o, s.heap.get? b = some o ∧ ((∃ vs n, o.data = .seq vs n) ∨ ∃ v, o.data = .cell v)
  Ck : ∃ o es ep, s.heap.get? C = some o ∧ o.data = .dict es ep
  Ik : ∃ o vs, s.heap.get? I = some o ∧ o.data = .fields vs
theorem GenAt.mv {a : Addr} {g : Nat} {C : Addr} {fp wr : List Addr} {pz : Nat → Bool} {n₀ : Nat} {F : Nat → Value → Prop} {j : Nat} {s s' : Shared} (x : GenAt c.prog c.w A a g C fp wr pz n₀ F j s) (hcs : cStatics ∈ fp)
    (k : ∀ b ∈ a :: C :: fp, ∀ o, s.heap.get? b = some o → s'.heap.get? b = some o) (hg : s'.gens[g]? = s.gens[g]?) : GenAt c.prog c.w A a g C fp wr pz n₀ F j s' := by
  obtain ⟨⟨o, nm, qn, ho, r⟩, ⟨mc, hns, hnn⟩, gs, hgs, hgo⟩ := x
  exact ⟨⟨o, nm, qn, k a (.head _) o ho, r⟩, ⟨mc, hns.at' fun o e => k cStatics (.tail _ (.tail _ hcs)) o e, hnn⟩, gs, hg.trans hgs, fun s'' hal => hgo s'' fun b hb o e => hal b hb o (k b (.tail _ hb) o e)⟩
theorem GenReady.move {h₀ : Heap} {a : Addr} {g : Nat} {C I : Addr} {olds : List Addr} {F : Nat → Value → Prop} {n₀ : Nat} {s s' : Shared} (x : GenReady c A h₀ a g C I olds F n₀ s) (k : Exact s.heap s'.heap) (hg : s'.gens[g]? = s.gens[g]?) : GenReady c A h₀ a g C I olds F n₀ s' := by
  have kk : ∀ b ∈ a :: C :: I :: olds, ∀ o, s.heap.get? b = some o → s'.heap.get? b = some o := fun b hb o e => by
    obtain ⟨o', e', t⟩ := x.typed b hb
    rw [e] at e'; obtain rfl := Option.some.inj e'
    exact k b o e t
  exact { x with gen := GenAt.mv x.gen (.tail _ x.cs) kk hg, typed := fun b hb => by obtain ⟨o, e, t⟩ := x.typed b hb; exact ⟨o, kk b hb o e, t⟩,
                  oldk := fun b hb => (x.oldk b hb).imp id fun ⟨o, e, r⟩ => ⟨o, kk b (.tail _ (.tail _ (.tail _ hb))) o e, r⟩,
                  Ck := by obtain ⟨o, es, ep, e, r⟩ := x.Ck; exact ⟨o, es, ep, kk C (.tail _ (.head _)) o e, r⟩,
                  Ik := by obtain ⟨o, vs, e, r⟩ := x.Ik; exact ⟨o, vs, kk I (.tail _ (.tail _ (.head _))) o e, r⟩ }
theorem elt_run {cenv : Env} {x xb : Str} {px pb pos : Pos} {v : Value} {z : UInt64} {t : Tok} {d : D} {m : Int} (hk : cenv.scope.kind = .function) (hg : cenv.globals = mainGlobals) (hb : cenv.builtins = builtinsNs) (l₁ : Look s.heap cenv x v) (l₂ : Look s.heap cenv xb (.float z t)) (r : Rep s.heap X v d) (hd : isNum d = true) (hz : FV z m)
    (h1 : (dbl d).natAbs < 2 ^ 53) (h2 : (dbl d - m).natAbs < 2 ^ 53) (hdx : (x == ("__debug__" : Str)) = false) (hdb : (xb == ("__debug__" : Str)) = false) :
    wpAny (model c.prog c.w) A (eval (.BinOp (.Name x px) .Sub (.Name xb pb) pos) cenv) (fun y s' => (∃ t z, y = .float z t ∧ FV z (dbl d - m)) ∧ Keeps s s') E s := by
  refine wpAny_BinOp (wpAny_Name (wpAny_loadName_look hk hg hb l₁ (wpAny_Name (wpAny_loadName_look hk hg hb l₂ ?_) hdb)) hdx)
  cases d with
  | int i =>
    obtain ⟨t', rfl⟩ := r.inv
    have hy : FV (ofInt i) (2 * i) := FV.ofInt h1
    exact AutoFloatOps.sub_if_1 hy.noInf ⟨⟨_, _, rfl, hy.sub hz h2⟩, s.heap, _, rfl, fun _ _ e => e⟩
  | flt k =>
    obtain ⟨y, t', hk', rfl⟩ := r.inv
    exact AutoFloatOps.sub_0 ⟨⟨_, _, rfl, hk'.sub hz h2⟩, s.heap, _, rfl, fun _ _ e => e⟩
  | _ => exact ft_ hd
end
end
section
open PySem PySem.W PyProof.Rows PySem.Float64
variable [Lo]
/-- what the generator hands out -/
noncomputable def genF (ds : List D) (m : Int) (i : Nat) (y : Value) : Prop := ∃ t z d, y = .float z t ∧ ds[i]? = some d ∧ FV z (dbl d - m)
/-- a generator that was made -/
structure GenMade (c : Cfg) (A : Around) (s : Shared) (ds : List D) (m : Int) (a : Addr) (g : Nat) (C I : Addr) (olds : List Addr) (s' : Shared) : Prop where
  ready : GenReady c A.in1 s.heap a g C I olds (genF ds m) ds.length s'
  kp : Kp s s'
  ex : Exact s.heap s'.heap
  ge : s.gens.size ≤ g
  gk : ∀ k, k < s.gens.size → s'.gens[k]? = s.gens[k]?
  gs : s.gens.size ≤ s'.gens.size
/-- the expression (x - xbar for x in ..) -/
structure GenOK (names : Names) (ρ : Vars) (ln x xb : Str) (scope : Scope) (ds : List D) (m : Int) : Prop where
  ok : compOK names scope = true
  co : scope.isCoroutine = false
  cell : ∀ y ∈ scope.names, y.2 ≠ .cell
  h0 : scope.names.lookup (".0" : Str) = some NameKind.local
  hx : scope.names.lookup x = some .local
  hxb : scope.names.lookup xb = some .free
  hl : ρ.lookup ln = some (.list ds)
  hb : ρ.lookup xb = some (.flt m)
  num : ∀ d ∈ ds, isNum d = true
  b1 : ∀ d ∈ ds, (dbl d).natAbs < 2 ^ 53
  b2 : ∀ d ∈ ds, (dbl d - m).natAbs < 2 ^ 53
  dl : (ln == ("__debug__" : Str)) = false
  dx : (x == ("__debug__" : Str)) = false
  db : (xb == ("__debug__" : Str)) = false
section
variable {c : Cfg} {n : Nat} {names : Names} {o : Own} {ρ : Vars} {A : Around} {E : Value → Shared → Prop} {s : Shared} {env : Env} {X : List Addr}
theorem passing_all (n : Nat) : passing (fun _ => true) n 0 = List.range n := by unfold passing; simp
theorem three_all {P : Addr → Prop} {l b ca : Addr} (h1 : P l) (h2 : P b) (h3 : P ca) : ∀ a ∈ [l, b, ca], P a :=
  List.forall_mem_cons.mpr ⟨h1, List.forall_mem_cons.mpr ⟨h2, List.forall_mem_cons.mpr ⟨h3, fun _ h => absurd h List.not_mem_nil⟩⟩⟩
theorem tab_gen {h : Heap} {a : Addr} {g : Nat} (x : h.IsGen a g) : ∃ o, h.get? a = some o ∧ tab o = false := by
  obtain ⟨o, nm, qn, e, hc, _⟩ := x
  exact ⟨o, e, tab_not (.inr (by rw [hc]; exact fun e => Value.noConfusion e))⟩
theorem list_walks {w : World} {prog : Program} {N l ca b : Addr} {vs : List Value} {k : Nat} (hNl : l ≠ N) (hl : vs.length = k) (A' : Around) (hA' : A'.handled = none) :
    Walks prog w A' N (N :: [l, b, ca]) [N] k (fun i v => vs.toArray[i]? = some v) (fun i h => h.IsListIter N l i ∧ h.IsList l vs.toArray) := by
  have w := (Walks.list (prog := prog) (w := w) (A := A') hA' N l hNl vs.toArray).mono_fp (fp' := N :: [l, b, ca]) fun b hb => by
    rcases List.mem_cons.mp hb with e | hb
    · rw [e]; exact .head _
    · rw [List.mem_singleton.mp hb]; exact .tail _ (.head _)
  rw [List.size_toArray, hl] at w
  exact w
/-- the generator, once its objects stand -/
theorem gen_half {iter : Expr} {ln x xb : Str} {px pe pb ep pos : Pos} {scope : Scope} {ds : List D} {m : Int} {cenv : Env} {s₅ : Shared} {N a : Addr} {g : Nat} {l ca : Addr} {vs : List Value} {z : UInt64} {tz : Tok} (K : GenOK names ρ ln x xb scope ds m) (hA : A.handled = none)
    (p : Plain s.heap "list" l vs) (rs : Reps s.heap X vs ds) (hcv : s.heap.IsCell ca (some (.float z tz))) (hz : FV z m) (hnl : s.heap.NoLimit) (lt : ∀ b o, s.heap.get? b = some o → b < N) (hNC : N < cenv.locals) (hCa : cenv.locals < a) (k05 : Kp s s₅) (ex : Exact s.heap s₅.heap)
    (ntI : s₅.heap.get? N = some { cls := .type "list_iterator", data := .fields #[.ref l, .int 0 0] }) (hgen : s₅.heap.IsGen a g) (hns : s₅.heap.Ns cenv.locals (fun y => if y = ".0" then some (.ref N) else none))
    (hk : cenv.scope.kind = .function) (hco : cenv.scope.isCoroutine = false) (kindX : cenv.kindOf x = some .local) (kindB : cenv.kindOf xb = some .free) (hg : cenv.globals = mainGlobals) (hb : cenv.builtins = builtinsNs) (hcd : (xb == ("__classdict__" : Str)) = false) (hca : cenv.cells.lookup xb = some ca)
    (hgs : s₅.gens[g]? = some (.fresh (.compStart (.GeneratorExp (.BinOp (.Name x pe) .Sub (.Name xb pb) ep) [⟨.Name x px, iter, [], 0⟩] scope pos) 0 (.ref N) .none cenv)))
    (ge : s.gens.size ≤ g) (gk : ∀ k, k < s.gens.size → s₅.gens[k]? = s.gens[k]?) (gs : s.gens.size ≤ s₅.gens.size) : GenMade c A s ds m a g cenv.locals N [l, cStatics, ca] s₅ := by
  have hlo : ∃ o, s.heap.get? l = some o ∧ tab o = false := by obtain ⟨n, e⟩ := p; exact ⟨_, e, rfl⟩
  have hcs : ∃ o, s.heap.get? cStatics = some o ∧ tab o = false := by obtain ⟨mc, ⟨oc, es, ep, e, dd, _⟩, _⟩ := hnl; exact ⟨oc, e, tab_dict dd⟩
  have hcc : ∃ o, s.heap.get? ca = some o ∧ tab o = false := by obtain ⟨oc, e, dd⟩ := hcv; exact ⟨oc, e, tab_cell dd⟩
  have up : ∀ {b}, (∃ o, s.heap.get? b = some o ∧ tab o = false) → ∃ o, s₅.heap.get? b = some o ∧ tab o = false := fun q => by obtain ⟨o, e, t⟩ := q; exact ⟨o, ex _ o e t, t⟩
  have ltN : ∀ {b}, (∃ o, s.heap.get? b = some o ∧ tab o = false) → b < N := fun q => by obtain ⟨o, e, t⟩ := q; exact lt _ o e
  have here : ∀ {b}, (∃ o, s.heap.get? b = some o ∧ tab o = false) → Here s.heap b := fun q => by obtain ⟨o, e, t⟩ := q; exact ⟨o, e⟩
  have fresh : ∀ b, N ≤ b → s.heap.get? b = none := fun b hb => by
    cases e : s.heap.get? b with
    | none => rfl
    | some o' => exact absurd (lt b o' e) (Nat.not_lt.mpr hb)
  have hNa := Nat.lt_trans hNC hCa
  have hCk : ∃ o es ep, s₅.heap.get? cenv.locals = some o ∧ o.data = .dict es ep := by obtain ⟨oC, es, ep, e, dd, _⟩ := hns; exact ⟨oC, es, ep, e, dd⟩
  have hCt : ∃ o, s₅.heap.get? cenv.locals = some o ∧ tab o = false := by obtain ⟨oC, es, ep, e, dd⟩ := hCk; exact ⟨oC, e, tab_dict dd⟩
  have oldl : ∃ o, s₅.heap.get? l = some o ∧ ((∃ vs n, o.data = .seq vs n) ∨ ∃ v, o.data = .cell v) := by obtain ⟨n, e⟩ := p; exact ⟨_, ex _ _ e rfl, .inl ⟨_, _, rfl⟩⟩
  have oldc : ∃ o, s₅.heap.get? ca = some o ∧ ((∃ vs n, o.data = .seq vs n) ∨ ∃ v, o.data = .cell v) := by obtain ⟨oc, e, dd⟩ := hcv; exact ⟨_, ex _ _ e (tab_cell dd), .inr ⟨_, dd⟩⟩
  refine ⟨⟨?_, .tail _ (.head _), three_all (here hlo) (here hcs) (here hcc), fresh a (Nat.le_of_lt hNa), fresh _ (Nat.le_of_lt hNC), fresh _ (Nat.le_refl _), Nat.ne_of_gt hCa, Nat.ne_of_gt hNa, Nat.ne_of_gt hNC,
    List.forall_mem_cons.mpr ⟨tab_gen hgen, List.forall_mem_cons.mpr ⟨hCt, List.forall_mem_cons.mpr ⟨⟨_, ntI, rfl⟩, three_all (up hlo) (up hcs) (up hcc)⟩⟩⟩, three_all (.inr oldl) (.inl rfl) (.inr oldc), hCk, _, _, ntI, rfl⟩, k05, ex, ge, gk, gs⟩
  refine GenAt.freshD (prog := c.prog) (w := c.w) (A := A.in1) (fp := N :: [l, cStatics, ca]) hA (list_walks (Nat.ne_of_lt (ltN hlo)) rs.length) (fun _ => true) (genF ds m) kindX (by rw [hk]; rfl) hco (fun hm => ?_) ⟨fun A' E' i v s₂ m₂ _ _ _ _ _ _ _ => ?_, fun A' E' i v s₂ m₂ hA' _ _ hP _ hn₂ hxv hkp => ?_⟩ hgen hgs ⟨⟨_, ntI, rfl, rfl⟩, ?_⟩ hns (k05.heap.noLimit hnl)
  · rcases List.mem_cons.mp hm with e | hm
    · exact absurd e (Nat.ne_of_gt hNC)
    · exact three_all (P := fun b => b < cenv.locals) (Nat.lt_trans (ltN hlo) hNC) (Nat.lt_trans (ltN hcs) hNC) (Nat.lt_trans (ltN hcc) hNC) _ hm |> Nat.lt_irrefl _
  · exact wpAny_tests_nil ⟨rfl, s₂.heap, s₂.toks, rfl, fun _ _ e => e⟩
  · rw [List.getElem?_toArray] at hP
    obtain ⟨d, hd', rv⟩ := (rs.keep k05.heap.seq).get' hP
    have hdm := List.mem_of_getElem? hd'
    have hcv₂ : s₂.heap.IsCell ca (some (.float z tz)) := by
      obtain ⟨oc, e, dd⟩ := hcv
      exact ⟨oc, hkp ca (.tail _ (.tail _ (.tail _ (.head _)))) (fun hm => Nat.ne_of_lt (lt _ _ e) (List.mem_singleton.mp hm)) oc (ex _ _ e (tab_cell dd)), dd⟩
    refine then_ (elt_run (X := X) (d := d) (m := m) (z := z) (t := tz) (v := v) hk hg hb (.loc kindX hn₂ hxv) (.free kindB hcd hca hcv₂) ?_ (K.num d hdm) hz (K.b1 d hdm) (K.b2 d hdm) K.dx K.db) fun y s' hq => ?_
    · have hnum := K.num d hdm
      clear hkp hcv₂ hdm hd'
      cases d with
      | int i => obtain ⟨_, rfl⟩ := rv.inv; exact .int _ _
      | flt k => obtain ⟨_, _, hh, rfl⟩ := rv.inv; exact .flt _ _ _ hh
      | _ => exact ft_ hnum
    · obtain ⟨⟨t', z', e1, e2⟩, hk'⟩ := hq
      exact ⟨⟨t', z', d, e1, hd', e2⟩, hk'⟩
  · obtain ⟨n, e⟩ := p
    exact ⟨_, ex _ _ e rfl, rfl, n, rfl⟩
/-- a free name's cell -/
theorem free_cell {cl : List (Str × Addr)} {xb : Str} {ca : Addr} {v : Value} {h : Heap} (hn : env.scope.names = names) (bl : Look h env xb v) (hcae : env.cells.lookup xb = some ca) (hout : names.lookup xb = some .cell ∨ names.lookup xb = some .free) : h.IsCell ca (some v) := by
  have no : ∀ {k : NameKind}, env.kindOf xb = some k → k = .cell ∨ k = .free := fun hk => by
    unfold Env.kindOf at hk; rw [hn] at hk
    exact hout.imp (fun q => (Option.some.inj (q.symm.trans hk)).symm) fun q => (Option.some.inj (q.symm.trans hk)).symm
  cases bl with
  | loc g1 _ _ => exact (no g1).elim (fun e => NameKind.noConfusion e) fun e => NameKind.noConfusion e
  | cell g1 g2 g3 => rw [← Option.some.inj (g2.symm.trans hcae)]; exact g3
  | free g1 g2 g3 g4 => rw [← Option.some.inj (g3.symm.trans hcae)]; exact g4
  | glob g1 _ _ => exact (no g1).elim (fun e => NameKind.noConfusion e) fun e => NameKind.noConfusion e
  | built g1 _ _ _ _ => exact (no g1).elim (fun e => NameKind.noConfusion e) fun e => NameKind.noConfusion e
theorem gen_make {cc : Addr} {x ln xb : Str} {px pe lp pb ep pos : Pos} {scope : Scope} {ds : List D} {m : Int} (hA : OkA c n A) (hn : env.scope.names = names) (hW : c.Wf s.heap) (hbm : BMain s.heap) (hnl : s.heap.NoLimit) (hcode : env.code = .ref cc) (hct : CodeTab s.heap cc) (W : EnvOK none X s.heap env ρ)
    (K : GenOK names ρ ln x xb scope ds m) :
    wpAny (model c.prog c.w) A (eval (.GeneratorExp (.BinOp (.Name x pe) .Sub (.Name xb pb) ep) [⟨.Name x px, .Name ln lp, [], 0⟩] scope pos) env) (fun v s' => ∃ a g C I olds, v = .ref a ∧ GenMade c A s ds m a g C I olds s') E s := by
  obtain ⟨⟨⟨hf, hu⟩, hk⟩, hd⟩ : ((freeOK names scope.names = true ∧ uniqNames scope.names = true) ∧ scope.kind = .function) ∧ (frees scope.names).Nodup := by simpa [compOK, noTwice] using K.ok
  obtain ⟨cl, hclos, hcl, hap, hfr, hclf⟩ := closure_ok K.ok hn W
  obtain ⟨lv, ll, lr⟩ := W.look ln _ K.hl
  obtain ⟨bv, bl, br⟩ := W.look xb _ K.hb
  obtain ⟨z, tz, hz, rfl⟩ := br.inv
  obtain ⟨l, vs, ⟨hlX, p, hdl', rs⟩, rfl⟩ := lr.inv
  obtain ⟨ca, hca⟩ := hfr xb K.hxb
  have hfree := freeOK_at hf (mem_of_lookup K.hxb)
  have hcv : s.heap.IsCell ca (some (.float z tz)) := free_cell (cl := cl) hn bl (hcl xb ca (mem_of_lookup hca)).2.2 hfree.1
  have hroom : A.depth < recursionLimit := by have := hA.depth; exact z410 this
  clear hcl hap hfr hclf bl br lr hf hu hd
  refine wpAny_GeneratorExp_make K.co hclos K.cell K.h0 hk hroom ?_ (fun _ => rfl)
  refine wpAny_Name (wpAny_loadName_look W.kind W.glob W.built ll ?_) K.dl
  refine wpAny_pyIter_list p.isList ?_
  have hI : (s.heap.push { cls := .type "list_iterator", data := .fields #[.ref l, .int 0 0] }).get? s.heap.objs.size = some { cls := .type "list_iterator", data := .fields #[.ref l, .int 0 0] } := Heap.get?_push_size _ rfl
  have e1 : ∀ b o, s.heap.get? b = some o → (s.heap.push { cls := .type "list_iterator", data := .fields #[.ref l, .int 0 0] }).get? b = some o := fun _ _ e => Heap.get?_push_of_some _ e
  generalize s.heap.push { cls := .type "list_iterator", data := .fields #[.ref l, .int 0 0] } = h₁ at hI e1 ⊢
  have k1 : Kp s { s with heap := h₁ } := ⟨.of e1, rfl, fun x => x⟩
  refine ⟨k1.heap.noLimit hnl, ?_⟩
  refine wpAny_code hcode (k1.heap.codeTab hct) fun code s₃ k₃ hg₃ ex₃ => ?_
  rw [W.glob]
  have k03 := k1.trans k₃
  have hg₃ : s₃.gens = s.gens := hg₃
  refine wpAny_bmain (k03.heap.bmain hbm) fun h' hns hsb => ?_
  have hIlt : s.heap.objs.size < s₃.heap.objs.size := k₃.heap.lt hI
  have hsz : h'.objs.size = s₃.heap.objs.size + 1 := by rw [hsb.1, Heap.size_push]
  have keep' : ∀ b o, s₃.heap.get? b = some o → h'.get? b = some o := fun b o e => hsb.extBut b o (Nat.ne_of_lt (Heap.lt_size e)) (Heap.get?_push_of_some _ e)
  clear hsb hbm hct hW
  have keep₅ : ∀ (og : Obj) b o, s₃.heap.get? b = some o → (h'.push og).get? b = some o := fun og b o e => Heap.get?_push_of_some _ (keep' b o e)
  refine ⟨_, _, _, _, _, rfl, gen_half (cenv := genEnv scope cl s₃.heap.objs.size code builtinsNs env) K hA.handled p rs hcv hz hnl (fun b o e => Heap.lt_size e) hIlt (show s₃.heap.objs.size < h'.objs.size by rw [hsz]; exact Nat.lt_succ_self _) ⟨k03.heap.trans (.of (keep₅ _)), k03.os, fun x => AllBare.push (k03.gens x) rfl⟩
    (fun b o e t => keep₅ _ b o (ex₃ b o (e1 b o e) t)) (keep₅ _ _ _ (k₃.heap.at' _ _ hI rfl)) ⟨_, _, _, Heap.get?_push_size _ rfl, rfl, rfl, rfl⟩ (hns.push _) hk K.co K.hx K.hxb W.glob rfl hfree.2.2 hca (Array.getElem?_push_size ..) (by rw [hg₃]; exact Nat.le_refl _) (fun k hk => ?_) ?_⟩
  · show (s₃.gens.push _)[k]? = s.gens[k]?
    rw [hg₃, Array.getElem?_push_lt hk, Array.getElem?_eq_getElem hk]
  · show s.gens.size ≤ (s₃.gens.push _).size
    rw [hg₃, Array.size_push]; exact Nat.le_succ _
end
end
section
open PySem PySem.W PyProof.Rows PySem.Float64
variable [Lo]
theorem kind_sumprod : builtinKind "math.sumprod" = none := by decide +kernel
theorem plain_sumprod : plainId "math.sumprod" = true := by decide +kernel
theorem plain_sumprod_loop : plainId "math.sumprod.loop" = true := by decide +kernel
theorem entry_sumprod : entryFor table "math.sumprod" = some Builtin.«math.sumprod» := entryFor_of_fast (by kernel_rfl)
theorem entry_sumprod_loop : entryFor table "math.sumprod.loop" = some Builtin.«math.sumprod.loop» := entryFor_of_fast (by kernel_rfl)
theorem args_sumprod (a b : Value) : argsOk "math.sumprod" ⟨[a, b], []⟩ := by unfold argsOk; kernel_rfl
noncomputable def threeBits (t : UInt64 × UInt64 × UInt64) : List Value := [rawInt t.1.toNat, rawInt t.2.1.toNat, rawInt t.2.2.toNat]
section
variable {c : Cfg} {A : Around} {s : Shared}
theorem sp_unfold (a₁ a₂ P : Addr) (tot : Value) (io u : Bool) : ∃ (k : Option (Array Value) → Sem PySem.Fin) (body : UInt64 → UInt64 → UInt64 → Option Value → Option Value → Sem PySem.Fin),
    Builtin.«math.sumprod.loop» ⟨[.ref a₁, .ref a₂, tot, .bool io, rawInt 0, .bool false, .bool true, .ref P, .bool u], []⟩ = (seqItems? (.ref P) >>= k) ∧
    (∀ x y z : UInt64, k (some #[rawInt x.toNat, rawInt y.toNat, rawInt z.toNat]) = (pyNext (.ref a₁) >>= fun p => holding p.toList (pyNext (.ref a₂)) >>= fun q => body x y z p q)) ∧
    (∀ (x y z a b : UInt64) (ta tb : Tok), isFinite (Builtin.Math.tlFma a b (x, y, z)).1 = true → ∀ (M : Model) (A : Around) (E : Value → Shared → Prop) (Q : PySem.Fin → Shared → Prop) (s : Shared),
      (Q (.again (.builtin "math.sumprod.loop" ⟨[.ref a₁, .ref a₂, tot, .bool false, rawInt 0, .bool false, .bool true, .ref s.heap.objs.size, .bool true], []⟩)) { s with heap := s.heap.push { cls := .type "tuple", data := .seq (threeBits (Builtin.Math.tlFma a b (x, y, z))).toArray } }) →
      wpAny M A (body x y z (some (.float a ta)) (some (.float b tb))) Q E s) :=
  ⟨_, fun x y z p q => _, rfl, fun x y z => rfl, fun x y z a b ta tb hf M A E Q s h => by
    dsimp only
    simp only [back64]
    cases io
    · simp only [Option.isSome_some, bne_self_eq_false, Bool.false_eq_true, if_false, if_true, Bool.true_or, hf]
      exact wpAny_bind (wpAny_newTuple (wpAny_pure h) (show 3 ≤ sizeLine by decide))
    · simp only [Option.isSome_some, bne_self_eq_false, Bool.false_eq_true, if_false, if_true, Bool.true_or, hf]
      exact wpAny_bind (wpAny_rule (wpAny_bind (wpAny_newTuple (wpAny_pure h) (show 3 ≤ sizeLine by decide))))⟩
theorem sp_turn {P a₁ a₂ : Addr} {t : UInt64 × UInt64 × UInt64} {R : Result → Shared → Prop} {tot : Value} (io u : Bool) (hP : Plain s.heap "tuple" P (threeBits t))
    (h : wpAny (model c.prog c.w) A.in1 (pyNext (.ref a₁)) (fun p s₁ => ∃ x tx, p = some (.float x tx) ∧ wpAny (model c.prog c.w) A.in1 (pyNext (.ref a₂)) (fun q s₂ => ∃ y ty, q = some (.float y ty) ∧ isFinite (Builtin.Math.tlFma x y t).1 = true ∧
      codeAny (model c.prog c.w) A (.builtin "math.sumprod.loop" ⟨[.ref a₁, .ref a₂, tot, .bool false, rawInt 0, .bool false, .bool true, .ref s₂.heap.objs.size, .bool true], []⟩) R
        { s₂ with heap := s₂.heap.push { cls := .type "tuple", data := .seq (threeBits (Builtin.Math.tlFma x y t)).toArray } }) (fun e s' => R (.error e) s') s₁) (fun e s' => R (.error e) s') s) :
    codeAny (model c.prog c.w) A (.builtin "math.sumprod.loop" ⟨[.ref a₁, .ref a₂, tot, .bool io, rawInt 0, .bool false, .bool true, .ref P, .bool u], []⟩) R s := by
  obtain ⟨mp, eP⟩ := hP
  obtain ⟨k, body, e1, e2, e3⟩ := sp_unfold a₁ a₂ P tot io u
  refine codeAny_builtin entry_sumprod_loop ?_
  rw [Around.under_plainId plain_sumprod_loop _, e1]
  refine wpAny_bind (wpAny_seqItems eP rfl ?_)
  rw [show k (some (threeBits t).toArray) = _ from e2 t.1 t.2.1 t.2.2]
  refine wpAny_bind (then_ h fun p s₁ hp => ?_)
  obtain ⟨x, tx, rfl, hp⟩ := hp
  refine wpAny_bind (wpAny_holding (then_ hp fun q s₂ hq => ?_))
  obtain ⟨y, ty, rfl, hf, hR⟩ := hq
  exact e3 _ _ _ _ _ _ _ hf _ _ _ _ _ ⟨plainId_quiet plain_sumprod_loop _, hR⟩
theorem sp_unfold0 (a₁ a₂ P : Addr) (tt : Tok) : ∃ (k : Option (Array Value) → Sem PySem.Fin) (body : UInt64 → UInt64 → UInt64 → Option Value → Option Value → Sem PySem.Fin),
    Builtin.«math.sumprod.loop» ⟨[.ref a₁, .ref a₂, .int 0 tt, .bool false, rawInt 0, .bool false, .bool true, .ref P, .bool true], []⟩ = (seqItems? (.ref P) >>= k) ∧
    (∀ x y z : UInt64, k (some #[rawInt x.toNat, rawInt y.toNat, rawInt z.toNat]) = (pyNext (.ref a₁) >>= fun p => holding p.toList (pyNext (.ref a₂)) >>= fun q => body x y z p q)) ∧
    (∀ (x y z : UInt64) (j : Int), FV (Builtin.Math.tlToFloat (x, y, z)) j → j.natAbs < 2 ^ 53 → ∀ (prog : Program) (w : World) (A : Around) (E : Value → Shared → Prop) (Q : PySem.Fin → Shared → Prop) (s : Shared),
      (∀ r tx tk, FV r j → Q (.done (.ret (.float r tx))) { s with toks := tk }) → wpAny (model prog w) A (body x y z none none) Q E s) :=
  ⟨_, fun x y z p q => _, rfl, fun x y z => rfl, fun x y z j hx hj prog w A E Q s h => by
    dsimp only
    simp only [back64, Option.isSome_none, bne_self_eq_false, Bool.false_eq_true, if_false, if_true]
    have h0 : FV (ofInt 0) 0 := FV.ofInt (i := 0) (by decide)
    refine wpAny_bind (wpAny_rule (wpAny_bind (PySem.Flt.wp_mkFloat (wpAny_bind (wpAny_holding (AutoFloatOps.add_if_1 h0.noInf ?_))))))
    exact wpAny_pure (h _ _ _ ((h0.add hx (by rw [Int.zero_add]; exact hj)).cast (Int.zero_add j)))⟩
theorem sp_last {P a₁ a₂ : Addr} {t : UInt64 × UInt64 × UInt64} {R : Result → Shared → Prop} {tt : Tok} {k : Int} (hP : Plain s.heap "tuple" P (threeBits t)) (T : Three t k) (hk : k.natAbs < 2 ^ 53)
    (h : wpAny (model c.prog c.w) A.in1 (pyNext (.ref a₁)) (fun p s₁ => p = none ∧ wpAny (model c.prog c.w) A.in1 (pyNext (.ref a₂)) (fun q s₂ => q = none ∧ ∀ x tx tk, FV x k → R (.ok (.ret (.float x tx))) { s₂ with toks := tk }) (fun e s' => R (.error e) s') s₁) (fun e s' => R (.error e) s') s) :
    codeAny (model c.prog c.w) A (.builtin "math.sumprod.loop" ⟨[.ref a₁, .ref a₂, .int 0 tt, .bool false, rawInt 0, .bool false, .bool true, .ref P, .bool true], []⟩) R s := by
  obtain ⟨mp, eP⟩ := hP
  obtain ⟨kk, body, e1, e2, e3⟩ := sp_unfold0 a₁ a₂ P tt
  refine codeAny_builtin entry_sumprod_loop ?_
  rw [Around.under_plainId plain_sumprod_loop _, e1]
  refine wpAny_bind (wpAny_seqItems eP rfl ?_)
  rw [show kk (some (threeBits t).toArray) = _ from e2 t.1 t.2.1 t.2.2]
  refine wpAny_bind (then_ h fun p s₁ hp => ?_)
  obtain ⟨rfl, hp⟩ := hp
  refine wpAny_bind (wpAny_holding (then_ hp fun q s₂ hq => ?_))
  obtain ⟨rfl, hR⟩ := hq
  exact e3 _ _ _ _ (tlToFloat_of T hk) hk _ _ _ _ _ _ fun r tx tk hr => hR r tx tk hr
/-- partial sums of products that stay small -/
noncomputable def psum (js : List Int) (i : Nat) : Int := (js.take i).sum
theorem psum_succ {js : List Int} {i : Nat} {j : Int} (h : js[i]? = some j) : psum js (i + 1) = psum js i + j := by
  unfold psum; rw [List.take_add_one, h]; simp
theorem noton {b : Addr} {l r : List Addr} (h : ∀ x ∈ l, x ∉ r) (hb : b ∈ l) : b ∉ r := h b hb
section
variable {h₀ : Heap} {a₁ a₂ : Addr} {g₁ g₂ : Nat} {C₁ I₁ C₂ I₂ : Addr} {o₁ o₂ : List Addr} {F₁ F₂ : Nat → Value → Prop} {N : Nat} {as bs js : List Int}
/-- one draw from each of the two -/
theorem sp_draw {j : Nat} {s : Shared} {Q : Value → Value → Shared → Prop} {E : Value → Shared → Prop} (hA : A.handled = none) (hd : A.depth < recursionLimit)
    (hg : g₁ ≠ g₂) (hc₁ : cStatics ∈ o₁) (hc₂ : cStatics ∈ o₂) (d₁ : ∀ b ∈ a₁ :: C₁ :: I₁ :: o₁, b ∉ [C₂, I₂]) (d₂ : ∀ b ∈ a₂ :: C₂ :: I₂ :: o₂, b ∉ [C₁, I₁]) (n₁ : a₁ ≠ C₁ ∧ a₁ ∉ I₁ :: o₁ ∧ cStatics ≠ C₁ ∧ cStatics ≠ I₁) (n₂ : a₂ ≠ C₂ ∧ a₂ ∉ I₂ :: o₂ ∧ cStatics ≠ C₂ ∧ cStatics ≠ I₂)
    (hj : j < N) (G₁ : GenAt c.prog c.w A a₁ g₁ C₁ (I₁ :: o₁) [I₁] (fun _ => true) N F₁ j s) (G₂ : GenAt c.prog c.w A a₂ g₂ C₂ (I₂ :: o₂) [I₂] (fun _ => true) N F₂ j s)
    (h : ∀ v u s', F₁ j v → F₂ j u → GenAt c.prog c.w A a₁ g₁ C₁ (I₁ :: o₁) [I₁] (fun _ => true) N F₁ (j + 1) s' → GenAt c.prog c.w A a₂ g₂ C₂ (I₂ :: o₂) [I₂] (fun _ => true) N F₂ (j + 1) s' →
      (∀ b o, b ∉ [C₁, I₁, C₂, I₂] → s.heap.get? b = some o → s'.heap.get? b = some o) → s'.os = s.os → (AllBare s.gens → AllBare s'.gens) → Q v u s') :
    wpAny (model c.prog c.w) A (pyNext (.ref a₁)) (fun p s₁ => ∃ v, p = some v ∧ F₁ j v ∧ wpAny (model c.prog c.w) A (pyNext (.ref a₂)) (fun q s₂ => ∃ u, q = some u ∧ Q v u s₂) E s₁) E s := by
  have W₁ := WalksS.genexpQ (prog := c.prog) (w := c.w) (A := A) hA a₁ g₁ C₁ (I₁ :: o₁) [I₁] (fun _ => true) N F₁ n₁.1 n₁.2.1 (by simp) hd (.tail _ hc₁) n₁.2.2.1 (by simpa using n₁.2.2.2)
  have W₂ := WalksS.genexpQ (prog := c.prog) (w := c.w) (A := A) hA a₂ g₂ C₂ (I₂ :: o₂) [I₂] (fun _ => true) N F₂ n₂.1 n₂.2.1 (by simp) hd (.tail _ hc₂) n₂.2.2.1 (by simpa using n₂.2.2.2)
  have hlen : (passing (fun _ => true) N 0).length = N := by rw [passing_all]; simp
  have here : ∀ {F : Nat → Value → Prop} {y : Value}, (∃ i, (passing (fun _ => true) N 0)[j]? = some i ∧ F i y) → F j y := fun {F y} ⟨i, hi, hf⟩ => by
    rw [passing_all, List.getElem?_range hj] at hi; obtain rfl := Option.some.inj hi; exact hf
  refine W₁.item j s _ _ (by rw [hlen]; exact hj) G₁ fun v s₁ hv G₁' M₁ => ⟨v, rfl, here hv, ?_⟩
  have gen₂ : s₁.gens[g₂]? = s.gens[g₂]? := by
    rcases M₁.gens with e | ⟨e, _⟩
    · rw [e]
    · exact e.2 g₂ (Ne.symm hg)
  have G₂' := GenAt.mv G₂ (.tail _ hc₂) (fun b hb o e => M₁.heap b o (d₂ b hb) e) gen₂
  refine W₂.item j s₁ _ _ (by rw [hlen]; exact hj) G₂' fun u s₂ hu G₂'' M₂ => ⟨u, rfl, ?_⟩
  have gen₁ : s₂.gens[g₁]? = s₁.gens[g₁]? := by
    rcases M₂.gens with e | ⟨e, _⟩
    · rw [e]
    · exact e.2 g₁ hg
  refine h v u s₂ (here hv) (here hu) (GenAt.mv G₁' (.tail _ hc₁) (fun b hb o e => M₂.heap b o (d₁ b hb) e) gen₁) G₂'' (fun b o hb e => M₂.heap b o (fun q => hb ?_) (M₁.heap b o (fun q => hb ?_) e)) (M₂.os.trans M₁.os) fun x => AllBare.moved (AllBare.moved x M₁.gens) M₂.gens
  · simp only [List.mem_cons, List.not_mem_nil, or_false] at q ⊢; rcases q with rfl | rfl <;> simp
  · simp only [List.mem_cons, List.not_mem_nil, or_false] at q ⊢; rcases q with rfl | rfl <;> simp
theorem sp_end {s : Shared} {Q : Shared → Prop} {E : Value → Shared → Prop} (hA : A.handled = none) (hd : A.depth < recursionLimit)
    (hg : g₁ ≠ g₂) (hc₁ : cStatics ∈ o₁) (hc₂ : cStatics ∈ o₂) (d₂ : ∀ b ∈ a₂ :: C₂ :: I₂ :: o₂, b ∉ [C₁, I₁]) (n₁ : a₁ ≠ C₁ ∧ a₁ ∉ I₁ :: o₁ ∧ cStatics ≠ C₁ ∧ cStatics ≠ I₁) (n₂ : a₂ ≠ C₂ ∧ a₂ ∉ I₂ :: o₂ ∧ cStatics ≠ C₂ ∧ cStatics ≠ I₂)
    (G₁ : GenAt c.prog c.w A a₁ g₁ C₁ (I₁ :: o₁) [I₁] (fun _ => true) N F₁ N s) (G₂ : GenAt c.prog c.w A a₂ g₂ C₂ (I₂ :: o₂) [I₂] (fun _ => true) N F₂ N s)
    (h : ∀ s', (∀ b o, b ∉ [C₁, I₁, C₂, I₂] → s.heap.get? b = some o → s'.heap.get? b = some o) → s'.os = s.os → (AllBare s.gens → AllBare s'.gens) → Q s') :
    wpAny (model c.prog c.w) A (pyNext (.ref a₁)) (fun p s₁ => p = none ∧ wpAny (model c.prog c.w) A (pyNext (.ref a₂)) (fun q s₂ => q = none ∧ Q s₂) E s₁) E s := by
  have W₁ := WalksS.genexpQ (prog := c.prog) (w := c.w) (A := A) hA a₁ g₁ C₁ (I₁ :: o₁) [I₁] (fun _ => true) N F₁ n₁.1 n₁.2.1 (by simp) hd (.tail _ hc₁) n₁.2.2.1 (by simpa using n₁.2.2.2)
  have W₂ := WalksS.genexpQ (prog := c.prog) (w := c.w) (A := A) hA a₂ g₂ C₂ (I₂ :: o₂) [I₂] (fun _ => true) N F₂ n₂.1 n₂.2.1 (by simp) hd (.tail _ hc₂) n₂.2.2.1 (by simpa using n₂.2.2.2)
  have hlen : (passing (fun _ => true) N 0).length = N := by rw [passing_all]; simp
  refine W₁.done s _ _ (by rw [hlen]; exact G₁) fun s₁ M₁ => ⟨rfl, ?_⟩
  have gen₂ : s₁.gens[g₂]? = s.gens[g₂]? := by
    rcases M₁.gens with e | ⟨e, _⟩
    · rw [e]
    · exact e.2 g₂ (Ne.symm hg)
  have G₂' := GenAt.mv G₂ (.tail _ hc₂) (fun b hb o e => M₁.heap b o (d₂ b hb) e) gen₂
  refine W₂.done s₁ _ _ (by rw [hlen]; exact G₂') fun s₂ M₂ => ⟨rfl, ?_⟩
  refine h s₂ (fun b o hb e => M₂.heap b o (fun q => hb ?_) (M₁.heap b o (fun q => hb ?_) e)) (M₂.os.trans M₁.os) fun x => AllBare.moved (AllBare.moved x M₁.gens) M₂.gens
  · simp only [List.mem_cons, List.not_mem_nil, or_false] at q ⊢; rcases q with rfl | rfl <;> simp
  · simp only [List.mem_cons, List.not_mem_nil, or_false] at q ⊢; rcases q with rfl | rfl <;> simp
end
end
end
section
open PySem PySem.W PyProof.Rows PySem.Float64
variable [Lo]
section
variable {c : Cfg} {n : Nat} {names : Names} {ρ : Vars} {A : Around} {E : Value → Shared → Prop} {s : Shared} {env : Env} {X : List Addr}
theorem psum_small {js : List Int} (hb : ∀ j ∈ js, j.natAbs ≤ 2 ^ 40) (hl : js.length ≤ lim) (i : Nat) : (psum js i).natAbs < 2 ^ 53 := by
  have h := nums_small (ds := js.map .flt) (fun d hd => by obtain ⟨j, hj, rfl⟩ := List.mem_map.mp hd; exact hb j hj) (by simpa using hl) i
  have e : ((js.map D.flt).take i).map dbl = js.take i := by
    rw [← List.map_take, List.map_map]
    conv => rhs; rw [← List.map_id (js.take i)]
    exact List.map_congr_left fun _ _ => rfl
  rw [e] at h; exact h
theorem sp_loop {a₁ a₂ : Addr} {g₁ g₂ : Nat} {C₁ I₁ C₂ I₂ : Addr} {o₁ o₂ : List Addr} {F₁ F₂ : Nat → Value → Prop} {js : List Int} {R : Result → Shared → Prop} {tt : Tok} (hA : A.handled = none) (hd : A.depth < recursionLimit)
    (hg : g₁ ≠ g₂) (hc₁ : cStatics ∈ o₁) (hc₂ : cStatics ∈ o₂) (d₁ : ∀ b ∈ a₁ :: C₁ :: I₁ :: o₁, b ∉ [C₂, I₂]) (d₂ : ∀ b ∈ a₂ :: C₂ :: I₂ :: o₂, b ∉ [C₁, I₁]) (n₁ : a₁ ≠ C₁ ∧ a₁ ∉ I₁ :: o₁ ∧ cStatics ≠ C₁ ∧ cStatics ≠ I₁) (n₂ : a₂ ≠ C₂ ∧ a₂ ∉ I₂ :: o₂ ∧ cStatics ≠ C₂ ∧ cStatics ≠ I₂)
    (hb : ∀ j ∈ js, j.natAbs ≤ 2 ^ 40) (hl : js.length ≤ lim)
    (hF₁ : ∀ i v, F₁ i v → ∃ x tx, v = .float x tx) (hF : ∀ i v u j, js[i]? = some j → F₁ i v → F₂ i u → ∃ x tx y ty a b, v = .float x tx ∧ u = .float y ty ∧ FV x a ∧ FV y b ∧ a * b = 2 * j) :
    ∀ (k i : Nat) (s : Shared) (P : Addr) (t : UInt64 × UInt64 × UInt64) (io u : Bool), js.length - i = k → i ≤ js.length → (i = js.length → io = false ∧ u = true) →
      GenAt c.prog c.w A.in1 a₁ g₁ C₁ (I₁ :: o₁) [I₁] (fun _ => true) js.length F₁ i s → GenAt c.prog c.w A.in1 a₂ g₂ C₂ (I₂ :: o₂) [I₂] (fun _ => true) js.length F₂ i s →
      Plain s.heap "tuple" P (threeBits t) → Three t (psum js i) →
      (∀ s' x tx, FV x (psum js js.length) → (∀ b o, b ∉ [C₁, I₁, C₂, I₂] → s.heap.get? b = some o → s'.heap.get? b = some o) → s'.os = s.os → (AllBare s.gens → AllBare s'.gens) → R (.ok (.ret (.float x tx))) s') →
      codeAny (model c.prog c.w) A (.builtin "math.sumprod.loop" ⟨[.ref a₁, .ref a₂, .int 0 tt, .bool io, rawInt 0, .bool false, .bool true, .ref P, .bool u], []⟩) R s := by
  intro k
  induction k with
  | zero =>
    intro i s P t io u hk hi hlast G₁ G₂ hP T hR
    obtain rfl : i = js.length := by omega
    obtain ⟨rfl, rfl⟩ := hlast rfl
    refine sp_last hP T (psum_small hb hl _) (sp_end (A := A.in1) hA hd hg hc₁ hc₂ d₂ n₁ n₂ G₁ G₂ fun s' hk ho hb x tx tk hx => hR _ x tx hx hk ho hb)
  | succ k ih =>
    intro i s P t io u hk hi hlast G₁ G₂ hP T hR
    have hlt : i < js.length := by omega
    obtain ⟨j, hj⟩ : ∃ j, js[i]? = some j := ⟨_, List.getElem?_eq_getElem hlt⟩
    have hjm := hb j (List.mem_of_getElem? hj)
    refine sp_turn io u hP (then_ (sp_draw (A := A.in1) (Q := fun v u s' => F₁ i v ∧ F₂ i u ∧ GenAt c.prog c.w A.in1 a₁ g₁ C₁ (I₁ :: o₁) [I₁] (fun _ => true) js.length F₁ (i + 1) s' ∧ GenAt c.prog c.w A.in1 a₂ g₂ C₂ (I₂ :: o₂) [I₂] (fun _ => true) js.length F₂ (i + 1) s' ∧
      (∀ b o, b ∉ [C₁, I₁, C₂, I₂] → s.heap.get? b = some o → s'.heap.get? b = some o) ∧ s'.os = s.os ∧ (AllBare s.gens → AllBare s'.gens)) hA hd hg hc₁ hc₂ d₁ d₂ n₁ n₂ hlt G₁ G₂ fun v u s' h1 h2 h3 h4 h5 h6 h7 => ⟨h1, h2, h3, h4, h5, h6, h7⟩) fun p s₁ hp => ?_)
    obtain ⟨v, rfl, f0, hp⟩ := hp
    obtain ⟨x, tx, rfl⟩ := hF₁ _ _ f0
    refine ⟨x, tx, rfl, then_ hp fun q s₂ hq => ?_⟩
    obtain ⟨w, rfl, f1, f2, q1, q2, q3, q4, q5⟩ := hq
    obtain ⟨x', tx', y, ty, a, b, e1, rfl, hx, hy, he⟩ := hF i _ _ j hj f1 f2
    cases e1
    have T' := tlFma_of hx hy he T (by rw [← psum_succ hj]; exact psum_small hb hl _) (psum_small hb hl _) (Nat.lt_of_le_of_lt hjm (by decide))
    rw [← psum_succ hj] at T'
    refine ⟨y, ty, rfl, T'.hi.isFin, ih (i + 1) _ _ _ _ _ (by omega) hlt (fun _ => ⟨rfl, rfl⟩) (GenAt.mv q1 (.tail _ hc₁) (fun b _ o e => Heap.get?_push_of_some _ e) rfl) (GenAt.mv q2 (.tail _ hc₂) (fun b _ o e => Heap.get?_push_of_some _ e) rfl) ⟨0, Heap.get?_push_size _ rfl⟩ T' fun s' x tx hx hk ho hbb => hR s' x tx hx (fun b o hn e => hk b o hn (Heap.get?_push_of_some _ (q3 b o hn e))) (ho.trans q4) fun z => hbb (q5 z)⟩
section
variable {h₀ : Heap} {a : Addr} {g : Nat} {C I : Addr} {olds : List Addr} {F : Nat → Value → Prop} {k : Nat} {s₁ s₂ : Shared}
theorem GenReady.apart (R : GenReady c A h₀ a g C I olds F k s) : a ≠ C ∧ a ∉ I :: olds ∧ cStatics ≠ C ∧ cStatics ≠ I := by
  refine ⟨R.aC, fun hm => ?_, fun q => ?_, fun q => ?_⟩
  · rcases List.mem_cons.mp hm with q | hm
    · exact R.aI q
    · obtain ⟨o, e⟩ := R.old a hm; exact ns_ (R.na.symm.trans e)
  · obtain ⟨o, e⟩ := R.old _ R.cs; rw [q] at e; exact ns_ (R.nC.symm.trans e)
  · obtain ⟨o, e⟩ := R.old _ R.cs; rw [q] at e; exact ns_ (R.nI.symm.trans e)
theorem two_mem {P : Addr → Prop} {C I b : Addr} (h1 : P C) (h2 : P I) (hb : b ∈ [C, I]) : P b := by
  rcases List.mem_cons.mp hb with e | hb
  · rw [e]; exact h1
  · rw [List.mem_singleton.mp hb]; exact h2
theorem GenReady.clear {h₁ : Heap} {b : Addr} (R : GenReady c A h₁ a g C I olds F k s) (hb : Here h₁ b) : b ∉ [C, I] := fun hm => by
  obtain ⟨ob, e⟩ := hb
  exact two_mem (P := fun b => h₁.get? b = some ob → False) (fun e => ns_ (R.nC.symm.trans e)) (fun e => ns_ (R.nI.symm.trans e)) hm e
theorem gens_apart {a₂ : Addr} {g₂ : Nat} {C₂ I₂ : Addr} {o₂ : List Addr} {F₂ : Nat → Value → Prop} {k₂ : Nat} (R₁' : GenReady c A h₀ a g C I olds F k s₁) (R₁ : GenReady c A h₀ a g C I olds F k s₂) (R₂ : GenReady c A s₁.heap a₂ g₂ C₂ I₂ o₂ F₂ k₂ s₂) :
    (∀ b ∈ a :: C :: I :: olds, b ∉ [C₂, I₂]) ∧ ∀ b ∈ a₂ :: C₂ :: I₂ :: o₂, b ∉ [C, I] := by
  have typed₁ : ∀ b ∈ a :: C :: I :: olds, Here s₁.heap b := fun b hb => by obtain ⟨o, e, _⟩ := R₁'.typed b hb; exact ⟨o, e⟩
  refine ⟨fun b hb => R₂.clear (typed₁ b hb), fun b hb hm => ?_⟩
  obtain ⟨ob, e⟩ : Here s₁.heap b := two_mem (P := fun b => Here s₁.heap b) (typed₁ C (.tail _ (.head _))) (typed₁ I (.tail _ (.tail _ (.head _)))) hm
  rcases List.mem_cons.mp hb with q | hb
  · rw [q] at e; exact ns_ (R₂.na.symm.trans e)
  rcases List.mem_cons.mp hb with q | hb
  · rw [q] at e; exact ns_ (R₂.nC.symm.trans e)
  rcases List.mem_cons.mp hb with q | hb
  · rw [q] at e; exact ns_ (R₂.nI.symm.trans e)
  rcases R₂.oldk b hb with q | ⟨o', e', dd⟩
  · rw [q] at hm; exact R₁.clear (R₁'.old _ R₁'.cs) hm
  · obtain ⟨oC, es', ep', eC, dC⟩ := R₁.Ck
    obtain ⟨oI, vs', eI, dI⟩ := R₁.Ik
    refine two_mem (P := fun b => s₂.heap.get? b = some o' → False) (fun e' => ?_) (fun e' => ?_) hm e'
    · rw [← Option.some.inj (eC.symm.trans e'), dC] at dd
      rcases dd with ⟨_, _, h⟩ | ⟨_, h⟩
      · exact Data.noConfusion h
      · exact Data.noConfusion h
    · rw [← Option.some.inj (eI.symm.trans e'), dI] at dd
      rcases dd with ⟨_, _, h⟩ | ⟨_, h⟩
      · exact Data.noConfusion h
      · exact Data.noConfusion h
end
/-- the call, once both generators stand -/
theorem sum_call {ds es : List D} {m m' : Int} {js : List Int} {s₁ s₂ : Shared} {a₁ a₂ : Addr} {g₁ g₂ : Nat} {C₁ I₁ C₂ I₂ : Addr} {o₁ o₂ : List Addr} (hA : OkA c (n + 1) A) (M₁ : GenMade c A s ds m a₁ g₁ C₁ I₁ o₁ s₁) (M₂ : GenMade c A s₁ es m' a₂ g₂ C₂ I₂ o₂ s₂)
    (hlen : ds.length = js.length) (hlen' : es.length = js.length) (hpos : 0 < js.length) (hjb : ∀ j ∈ js, j.natAbs ≤ 2 ^ 40) (hjl : js.length ≤ lim)
    (hj : ∀ (i : Nat) (d e : D) (j : Int), ds[i]? = some d → es[i]? = some e → js[i]? = some j → (dbl d - m) * (dbl e - m') = 2 * j) :
    wpAny (model c.prog c.w) A (call (.builtin "math.sumprod") [.ref a₁, .ref a₂] []) (Good X (.flt js.sum) s) E s₂ := by
  have hg₁ : g₁ < s₁.gens.size := by
    obtain ⟨_, _, gs, hgs, _⟩ := M₁.ready.gen
    rcases Nat.lt_or_ge g₁ s₁.gens.size with h | h
    · exact h
    · rw [Array.getElem?_eq_none h] at hgs; exact ns_ hgs
  have R₁ := M₁.ready.move M₂.ex (M₂.gk _ hg₁)
  have R₂ := M₂.ready
  have hap := gens_apart M₁.ready R₁ R₂
  have hg : g₁ ≠ g₂ := Nat.ne_of_lt (Nat.lt_of_lt_of_le hg₁ M₂.ge)
  have kp := M₁.kp.trans M₂.kp
  have nn : ∀ b ob, s.heap.get? b = some ob → b ∉ [C₁, I₁, C₂, I₂] := fun b ob e hm => by
    rcases List.mem_append.mp (show b ∈ [C₁, I₁] ++ [C₂, I₂] from hm) with hm | hm
    · exact R₁.clear ⟨ob, e⟩ hm
    · exact R₂.clear (M₁.kp.heap.here e) hm
  have dep : A.depth < recursionLimit := by have := hA.depth; exact z270 this
  have hh := hA.handled
  clear M₁ M₂ hg₁
  have G₁ := R₁.gen
  have G₂ := R₂.gen
  rw [hlen] at G₁
  rw [hlen'] at G₂
  refine call_function_tree kind_sumprod plain_sumprod entry_sumprod (args_sumprod _ _) ?_
  show wpAny _ A.in1 (pyIter (.ref a₁) >>= fun it => _) _ _ s₂
  refine wpAny_bind (wpAny_pyIter_gen R₁.gen.1 ?_)
  refine wpAny_bind (wpAny_holding (wpAny_pyIter_gen R₂.gen.1 ?_))
  refine wpAny_bind (wpAny_mkInt ?_)
  refine wpAny_bind ?_
  show wpAny _ A.in1 (newTuple (threeBits (zero false, zero false, zero false))) _ _ _
  refine wpAny_newTuple ?_ (show 3 ≤ sizeLine by decide)
  refine wpAny_pure ⟨plainId_quiet plain_sumprod_loop _, sp_loop (c := c) (A := A) (js := js) (F₁ := genF ds m) (F₂ := genF es m') hh dep hg R₁.cs R₂.cs hap.1 hap.2 R₁.apart R₂.apart hjb hjl
    (fun i v h => by obtain ⟨t, z, _, e, _⟩ := h; exact ⟨z, t, e⟩) (fun i v u j hji h1 h2 => ?_) js.length 0 _ _ (zero false, zero false, zero false) _ _ rfl (Nat.zero_le _) (fun e => absurd e (Nat.ne_of_lt hpos))
    (GenAt.mv G₁ (.tail _ R₁.cs) (fun b _ o e => Heap.get?_push_of_some _ e) rfl) (GenAt.mv G₂ (.tail _ R₂.cs) (fun b _ o e => Heap.get?_push_of_some _ e) rfl) ⟨0, Heap.get?_push_size _ rfl⟩ ⟨FV.zero _, FV.zero _, FV.zero _⟩ fun s' x tx hx hk ho hb => ?_⟩
  · obtain ⟨t, z, d, rfl, hd, hz⟩ := h1
    obtain ⟨t', z', e, rfl, he, hz'⟩ := h2
    exact ⟨z, t, z', t', _, _, rfl, rfl, hz, hz', hj i d e j hd he hji⟩
  · have e : psum js js.length = js.sum := by unfold psum; rw [List.take_length]
    rw [e] at hx
    exact ⟨.flt _ _ _ hx, ⟨kp.heap.but fun b o eo e' => hk b o (nn b _ eo) (Heap.get?_push_of_some _ e'), ho.trans kp.os, fun z => hb (kp.gens z)⟩⟩
/-- the call as an expression -/
theorem sum_of {e1 e2 : Expr} {ds es : List D} {m m' : Int} {js : List Int} {fp pos : Pos} (h1 : isStarred e1 = false) (h2 : isStarred e2 = false) (hA : OkA c (n + 1) A) (hn : env.scope.names = names) (hW : c.Wf s.heap) (W : EnvOK none X s.heap env ρ) (hf : Ev c n names none ρ (.Name "sumprod" fp) (.val (.builtin "math.sumprod")))
    (H1 : ∀ s₀ (E : Value → Shared → Prop), Kp s s₀ → wpAny (model c.prog c.w) A (eval e1 env) (fun v s' => ∃ a g C I olds, v = .ref a ∧ GenMade c A s₀ ds m a g C I olds s') E s₀)
    (H2 : ∀ s₀ (E : Value → Shared → Prop), Kp s s₀ → wpAny (model c.prog c.w) A (eval e2 env) (fun v s' => ∃ a g C I olds, v = .ref a ∧ GenMade c A s₀ es m' a g C I olds s') E s₀)
    (hlen : ds.length = js.length) (hlen' : es.length = js.length) (hpos : 0 < js.length) (hjb : ∀ j ∈ js, j.natAbs ≤ 2 ^ 40) (hjl : js.length ≤ lim)
    (hj : ∀ (i : Nat) (d e : D) (j : Int), ds[i]? = some d → es[i]? = some e → js[i]? = some j → (dbl d - m) * (dbl e - m') = 2 * j) :
    wpAny (model c.prog c.w) A (eval (.Call (.Name "sumprod" fp) [e1, e2] [] pos) env) (Good X (.flt js.sum) s) E s := by
  have fin : ∀ {s₀ : Shared}, Kp s s₀ → ∀ {v s'}, Good X (.flt js.sum) s₀ v s' → Good X (.flt js.sum) s v s' := fun k _ _ g => g.trans k
  refine wpAny_Call_Name_kw (then_ (hf A env X s E (hA.le (Nat.le_succ n)) hn hW W) fun v s₀ g => ?_)
  have k₀ := g.2
  refine g.1.onVal (P := fun v => wpAny (model c.prog c.w) A (callWith pos v [] (backTo pos (starEach [e1, e2] env)) (backToKw pos (keywordEach [] env))) _ E s₀) ?_
  clear g hf W hW
  refine wpAny_callAny (P := fun a s₂ => a.kw = [] ∧ ∃ a₁ g₁ C₁ I₁ o₁ a₂ g₂ C₂ I₂ o₂ s₁, a.pos = [.ref a₁, .ref a₂] ∧ GenMade c A s₀ ds m a₁ g₁ C₁ I₁ o₁ s₁ ∧ GenMade c A s₁ es m' a₂ g₂ C₂ I₂ o₂ s₂) (noStars_each (noStars2 h1 h2) env pos) rfl ?_ ?_
  · refine evalArgs_plain' (noStars_each (noStars2 h1 h2) env pos) rfl (wpAny_items_cons ?_ (starEach_plain h1))
    refine then_ (H1 s₀ _ k₀) fun v s₁ q => ?_
    obtain ⟨a₁, g₁, C₁, I₁, o₁, rfl, M₁⟩ := q
    refine wpAny_items_cons ?_ (starEach_plain h2)
    refine then_ (H2 s₁ _ (k₀.trans M₁.kp)) fun v s₂ q => ?_
    obtain ⟨a₂, g₂, C₂, I₂, o₂, rfl, M₂⟩ := q
    exact wpAny_items_nil (wpAny_evalAll_nil ⟨rfl, a₁, g₁, C₁, I₁, o₁, a₂, g₂, C₂, I₂, o₂, s₁, rfl, M₁, M₂⟩)
  · clear H1 H2
    intro a s₂ q
    obtain ⟨e, a₁, g₁, C₁, I₁, o₁, a₂, g₂, C₂, I₂, o₂, s₁, e', M₁, M₂⟩ := q
    rw [e, e']
    exact ⟨.builtin _, then_ (sum_call hA M₁ M₂ hlen hlen' hpos hjb hjl hj) fun _ _ g => fin k₀ g⟩
theorem sumprod_run {cc : Addr} {x ln xb y lm yb : Str} {px pe lp pb ep gp py qe lq pc eq gq fp pos : Pos} {scope scope' : Scope} {ds es : List D} {m m' : Int} {js : List Int}
    (hA : OkA c (n + 1) A) (hn : env.scope.names = names) (hW : c.Wf s.heap) (hbm : BMain s.heap) (hnl : s.heap.NoLimit) (hcode : env.code = .ref cc) (hct : CodeTab s.heap cc) (W : EnvOK none X s.heap env ρ)
    (hf : Ev c n names none ρ (.Name "sumprod" fp) (.val (.builtin "math.sumprod"))) (K : GenOK names ρ ln x xb scope ds m) (K' : GenOK names ρ lm y yb scope' es m')
    (hlen : ds.length = js.length) (hlen' : es.length = js.length) (hpos : 0 < js.length) (hjb : ∀ j ∈ js, j.natAbs ≤ 2 ^ 40) (hjl : js.length ≤ lim)
    (hj : ∀ (i : Nat) (d e : D) (j : Int), ds[i]? = some d → es[i]? = some e → js[i]? = some j → (dbl d - m) * (dbl e - m') = 2 * j) :
    wpAny (model c.prog c.w) A (eval (.Call (.Name "sumprod" fp) [.GeneratorExp (.BinOp (.Name x pe) .Sub (.Name xb pb) ep) [⟨.Name x px, .Name ln lp, [], 0⟩] scope gp,
      .GeneratorExp (.BinOp (.Name y qe) .Sub (.Name yb pc) eq) [⟨.Name y py, .Name lm lq, [], 0⟩] scope' gq] [] pos) env) (Good X (.flt js.sum) s) E s :=
  sum_of rfl rfl hA hn hW W hf (fun _ _ k => gen_make (hA.le (Nat.le_succ n)) hn (c.keeps _ _ k.heap hW) (k.heap.bmain hbm) (k.heap.noLimit hnl) hcode (k.heap.codeTab hct) (W.keeps k.heap) K)
    (fun _ _ k => gen_make (hA.le (Nat.le_succ n)) hn (c.keeps _ _ k.heap hW) (k.heap.bmain hbm) (k.heap.noLimit hnl) hcode (k.heap.codeTab hct) (W.keeps k.heap) K') hlen hlen' hpos hjb hjl hj
end
end
section
open PySem PySem.W PyProof.Rows PySem.Float64
variable [Lo]
/-- a frame around, as it stands -/
inductive FrameAt (h : Heap) (f : Env) : Prop
  | mk : f.scope.kind ≠ .module → (L : Addr) → (o : Obj) → f.frame = some L → h.get? L = some o → frm o = true → Lo.old L = false → FrameAt h f
theorem frm_data {o : Obj} (h : frm o = true) : ∀ vs, o.data ≠ .fields vs := fun vs e => by simp [frm, e] at h
theorem FrameAt.keep {h h' : Heap} {f : Env} (k : Keep h h') (x : FrameAt h f) : FrameAt h' f := by
  obtain ⟨hk, L, o, hf, ho, hr, hl⟩ := x
  obtain ⟨o', e', t⟩ := k.all L o ho
  refine ⟨hk, L, o', hf, e', ?_, hl⟩
  rcases t.fwd with e | ⟨ps, more, _, e, _⟩ | ⟨sl, _, e⟩
  · rw [e]; exact hr
  · rw [e] at hr; exact ft_ hr
  · rw [e]; exact hr
/-- the fault's object, and its one word -/
structure FObj (C : Addr) (msg : Str) (h : Heap) (e : Addr) (oe : Obj) (vs : Array Value) (t : Addr) : Prop where
  he : h.get? e = some oe
  cls : oe.cls = .ref C
  data : oe.data = .fields vs
  sz : 1 < vs.size
  h0 : vs[0]? = some (.ref t)
  tup : ∃ ot tk n, h.get? t = some ot ∧ ot.cls = .type "tuple" ∧ ot.data = .seq #[.str msg tk] n
/-- its trace -/
structure FTr (h₀ h : Heap) (vs : Array Value) (e T : Addr) (oT : Obj) (ts : Array Value) : Prop where
  h1 : vs[1]? = some (.ref T)
  new : h₀.get? T = none
  ne : T ≠ e
  hT : h.get? T = some oT
  data : oT.data = .fields ts
  h3 : ts[3]? = some .none
/-- a fault of the program's own class, with its one word; b: a frame has seen it -/
structure Fault (b : Bool) (C : Addr) (msg : Str) (h₀ h : Heap) (e : Addr) : Prop where
  ex : ∃ oe vs t, FObj C msg h e oe vs t ∧ ((b = false ∧ vs[1]? = some .none) ∨ ∃ T oT ts, FTr h₀ h vs e T oT ts)
  new : h₀.get? e = none
theorem funFrames_of {base h : Heap} : ∀ {l : List Env}, (∀ f ∈ l, f.scope.kind ≠ .module ∧ ∃ L o, f.frame = some L ∧ base.get? L = none ∧ h.get? L = some o ∧ ∀ vs, o.data ≠ .fields vs) → h.FunFrames base l
  | [], _ => trivial
  | f :: r, x => ⟨(x f (.head _)).1, (x f (.head _)).2, funFrames_of fun g hg => x g (.tail _ hg)⟩
section
variable {c : Cfg} {n : Nat} {names : Names} {o : Own} {ρ : Vars} {A : Around} {E : Value → Shared → Prop} {s s₀ : Shared} {env : Env} {X : List Addr}
section
variable {outer : List Env} {L : Addr} {hid : List Addr} {h' : Heap}
/-- a frame's object, whichever -/
theorem frame_obj (hf : env.frame = some L) (hL : ∃ m, s.heap.Ns L m) (hout : ∀ f ∈ outer, FrameAt s.heap f) {f : Env} (hfm : f ∈ env :: outer) {b : Addr} (hfb : f.frame = some b) : ∃ o1, s.heap.get? b = some o1 ∧ ∀ vs, o1.data ≠ .fields vs := by
  rcases List.mem_cons.mp hfm with e | hfm
  · rw [e] at hfb
    rw [← Option.some.inj (hf.symm.trans hfb)]
    obtain ⟨m, oL, esL, epL, hoL, hdL, _⟩ := hL
    exact ⟨oL, hoL, by rw [hdL]; exact fun _ e => Data.noConfusion e⟩
  · obtain ⟨_, L', o', hf', ho', hr, _⟩ := hout f hfm
    rw [← Option.some.inj (hf'.symm.trans hfb)]
    exact ⟨o', ho', frm_data hr⟩
theorem left_keep (hf : env.frame = some L) (hLn : s₀.heap.get? L = none) (hout : ∀ f ∈ outer, FrameAt s.heap f) (kp : Keep s₀.heap s.heap) (hhid : ∀ a ∈ hid, s₀.heap.get? a = none)
    (stay : ∀ b ob, (hideAll s.heap (hid ++ (env :: outer).filterMap (·.frame))).get? b = some ob → h'.get? b = some ob) (ups : s.heap.UpToSlots h') : Keep s₀.heap h' := by
  refine ⟨fun b ob eb => ?_⟩
  obtain ⟨ob', eb', tn⟩ := kp.all b ob eb
  by_cases hb : b ∈ (env :: outer).filterMap (·.frame)
  · obtain ⟨f, hfm, hfb⟩ := List.mem_filterMap.mp hb
    rcases List.mem_cons.mp hfm with e | hfm
    · rw [e] at hfb
      rw [Option.some.inj (hf.symm.trans hfb)] at hLn
      exact ns_ (hLn.symm.trans eb)
    · obtain ⟨_, L', o', hf', ho', hr, hlo⟩ := hout f hfm
      have e1 := Option.some.inj (hf'.symm.trans hfb)
      rw [e1] at ho' hlo
      rw [← Option.some.inj (eb'.symm.trans ho')] at hr
      obtain ⟨sl, e2⟩ := ups b _ eb' (frm_data hr)
      exact ⟨_, e2, tn.trans (.frame sl hr hlo)⟩
  · exact ⟨ob', stay b ob' (hideAll_get _ eb' fun hm => (List.mem_append.mp hm).elim (fun h => ns_ ((hhid b h).symm.trans eb)) hb), tn⟩
theorem left_trace {T : Addr} {oT : Obj} {ts : Array Value} (hf : env.frame = some L) (hL : ∃ m, s.heap.Ns L m) (hout : ∀ f ∈ outer, FrameAt s.heap f) (kp : Keep s₀.heap s.heap) (hhid : ∀ a ∈ hid, s₀.heap.get? a = none) (ups : s.heap.UpToSlots h')
    (q6 : (hideAll s.heap (hid ++ (env :: outer).filterMap (·.frame))).get? T = none) (q8 : h'.get? T = some oT) (q9 : oT.data = .fields ts) : s₀.heap.get? T = none := by
  cases eT : s₀.heap.get? T with
  | none => rfl
  | some oT0 =>
    exfalso
    obtain ⟨oT1, eT1⟩ := kp.here eT
    by_cases hb : T ∈ hid ++ (env :: outer).filterMap (·.frame)
    · rcases List.mem_append.mp hb with hb | hb
      · exact ns_ ((hhid T hb).symm.trans eT)
      · obtain ⟨f, hfm, hfb⟩ := List.mem_filterMap.mp hb
        obtain ⟨o1, e1, hn1⟩ := frame_obj hf hL hout hfm hfb
        obtain ⟨sl, e2⟩ := ups T o1 e1 hn1
        rw [Option.some.inj (q8.symm.trans e2)] at q9
        exact hn1 _ q9
    · exact sn_ ((hideAll_get _ eT1 hb).symm.trans q6)
theorem FObj.same {C : Addr} {msg : Str} {h : Heap} {e t t' : Addr} {oe oe' : Obj} {vs vs' : Array Value} (x : FObj C msg h e oe vs t) (y : FObj C msg h e oe' vs' t') : t = t' := by
  have e1 := y.data
  rw [← Option.some.inj (x.he.symm.trans y.he), x.data] at e1
  injection e1 with e1
  have e2 := y.h0
  rw [← e1, x.h0] at e2
  have e2 := Option.some.inj e2
  injection e2
/-- what every step with a fault in hand does -/
theorem left_fault {b : Bool} {C : Addr} {msg : Str} {e : Addr} (hf : env.frame = some L) (hL : ∃ m, s.heap.Ns L m) (hLn : s₀.heap.get? L = none)
    (hout : ∀ f ∈ outer, FrameAt s₀.heap f) (kp : Kp s₀ s) (F : Fault b C msg s₀.heap s.heap e) {t : Addr} {oe : Obj} {vs : Array Value} (fo : FObj C msg s.heap e oe vs t) (hhid : ∀ a ∈ hid, s₀.heap.get? a = none)
    (hl : Heap.LeftW (hideAll s.heap (hid ++ (env :: outer).filterMap (·.frame))) (env :: outer) e (.ref C) (.ref t) s.heap h') : Fault true C msg s₀.heap h' e ∧ Kp s₀ { s with heap := h' } := by
  have hout' : ∀ f ∈ outer, FrameAt s.heap f := fun f hf => (hout f hf).keep kp.heap
  obtain ⟨stay, ff, tr, ups⟩ := hl
  refine ⟨⟨?_, F.new⟩, ⟨left_keep hf hLn hout' kp.heap hhid stay ups, kp.os, kp.gens⟩⟩
  have ht : ∃ ot' tk nn, h'.get? t = some ot' ∧ ot'.cls = .type "tuple" ∧ ot'.data = .seq #[.str msg tk] nn := by
    obtain ⟨ot, tk, nn, hto, htc, htd⟩ := fo.tup
    obtain ⟨sl, e2⟩ := ups t ot hto (by rw [htd]; exact fun _ e => Data.noConfusion e)
    exact ⟨_, _, _, e2, htc, htd⟩
  clear F fo stay ff
  obtain ⟨oe', vs', T, oT, ts, q1, ⟨q2, q3⟩, q4, q5, q6, q7, q8, q9, q10⟩ := tr
  exact ⟨oe', vs', t, ⟨q1, q2, q4, (Array.getElem?_eq_some_iff.mp q5).1, q3, ht⟩, .inr ⟨T, oT, ts, q5, left_trace hf hL hout' kp.heap hhid ups q6 q8 q9, q7, q8, q9, q10⟩⟩
end
theorem frames_hid {outer : List Env} {L : Addr} (hf : env.frame = some L) (hk : env.scope.kind ≠ .module) (hL : ∃ m, s.heap.Ns L m) (hout : ∀ f ∈ outer, FrameAt s.heap f) (hid : List Addr) :
    s.heap.FunFrames (hideAll s.heap (hid ++ (env :: outer).filterMap (·.frame))) (env :: outer) := funFrames_of fun f hfm => by
  obtain ⟨m, oL, esL, epL, hoL, hdL, hmL⟩ := hL
  have hm : ∀ L', f.frame = some L' → L' ∈ hid ++ (env :: outer).filterMap (·.frame) := fun L' q => List.mem_append_right _ (List.mem_filterMap.mpr ⟨f, hfm, q⟩)
  rcases List.mem_cons.mp hfm with rfl | hfm'
  · exact ⟨hk, L, oL, hf, hideAll_none _ (hm L hf), hoL, by rw [hdL]; exact fun _ e => Data.noConfusion e⟩
  · obtain ⟨hk', L', o', hf', ho', hr, _⟩ := hout f hfm'
    exact ⟨hk', L', o', hf', hideAll_none _ (hm L' hf'), ho', frm_data hr⟩
theorem pair_none {h₀ : Heap} {e T : Addr} (h1 : h₀.get? e = none) (h2 : h₀.get? T = none) : ∀ a ∈ [e, T], h₀.get? a = none := fun a ha => by
  rcases List.mem_cons.mp ha with q | ha
  · rw [q]; exact h1
  · rw [List.mem_singleton.mp ha]; exact h2
/-- a fault leaves a frame -/
theorem leave_fault {b : Bool} {C : Addr} {msg : Str} {outer : List Env} {L e : Addr} {Q : Unit → Shared → Prop} (hfr : A.frames = some (env :: outer)) (hf : env.frame = some L) (hk : env.scope.kind ≠ .module) (hL : ∃ m, s.heap.Ns L m) (hLn : s₀.heap.get? L = none)
    (hout : ∀ f ∈ outer, FrameAt s₀.heap f) (kp : Kp s₀ s) (F : Fault b C msg s₀.heap s.heap e) (h : ∀ s', Fault true C msg s₀.heap s'.heap e → Kp s₀ s' → Q () s') : wpAny (model c.prog c.w) A (leaving env (.ref e)) Q E s := by
  obtain ⟨oe, vs, t, fo, htr⟩ := F.ex
  have ffs := frames_hid hf hk hL fun f hf => (hout f hf).keep kp.heap
  rcases htr with ⟨_, h1⟩ | ⟨T, oT, ts, ft⟩
  · refine wpAny_leaving_firstW hfr (ffs [e]) hf fo.he (fun b ob eb => of_hideAll _ eb) (hideAll_none _ (.head _)) fo.data h1 fo.h0 fun h' hl => ?_
    rw [fo.cls] at hl
    obtain ⟨a1, a2⟩ := left_fault hf hL hLn hout kp F fo (hid := [e]) (fun a ha => by
      rw [List.mem_singleton.mp ha]; exact F.new) hl
    exact h _ a1 a2
  · refine wpAny_leaving_nextW hfr (ffs [e, T]) hf ⟨oe, vs, T, oT, ts, fo.he, ⟨fo.cls, fo.h0⟩, fo.data, ft.h1, hideAll_none _ (.tail _ (.head _)), ft.ne, ft.hT, ft.data, ft.h3⟩ (fun b ob eb => of_hideAll _ eb) (hideAll_none _ (.head _)) fun h' hl => ?_
    obtain ⟨a1, a2⟩ := left_fault hf hL hLn hout kp F fo (hid := [e, T]) (pair_none F.new ft.new) hl
    exact h _ a1 a2
/-- a frame takes a fault in hand -/
theorem take_fault {C : Addr} {msg : Str} {outer : List Env} {L e : Addr} {Q : Unit → Shared → Prop} (hfr : A.frames = some (env :: outer)) (hf : env.frame = some L) (hk : env.scope.kind ≠ .module) (hL : ∃ m, s.heap.Ns L m) (hLn : s₀.heap.get? L = none)
    (hout : ∀ f ∈ outer, FrameAt s₀.heap f) (kp : Kp s₀ s) (F : Fault true C msg s₀.heap s.heap e) (h : ∀ s', Fault true C msg s₀.heap s'.heap e → Kp s₀ s' → s.heap.UpToSlots s'.heap → Q () s') :
    wpAny (model c.prog c.w) A (noteFrame (.ref e) env) (fun _ s' => wpAny (model c.prog c.w) A (setFlight (.ref e) none) Q E s') E s := by
  obtain ⟨oe, vs, t, fo, htr⟩ := F.ex
  have ffs := frames_hid hf hk hL fun f hf => (hout f hf).keep kp.heap
  rcases htr with ⟨h1, _⟩ | ⟨T, oT, ts, ft⟩
  · exact tf_ h1
  · refine wpAny_noteFrame_onW hfr (ffs [e, T]) hf ⟨oe, vs, T, oT, ts, fo.he, ⟨fo.cls, fo.h0⟩, fo.data, ft.h1, hideAll_none _ (.tail _ (.head _)), ft.ne, ft.hT, ft.data, ft.h3⟩ (fun b ob eb => of_hideAll _ eb) (hideAll_none _ (.head _)) fun h₁ hl => ?_
    obtain ⟨n1, n2, n3, n4⟩ := hl
    refine wpAny_setFlight_noneW n1 n2 n3 fun h₂ m1 m2 m3 m4 => ?_
    have ups : ∀ b o, s.heap.get? b = some o → (∀ vs, o.data ≠ .fields vs) → ∃ sl, h₂.get? b = some { o with slots := sl } := fun b o eb hn => by
      obtain ⟨sl, e2⟩ := n4 b o eb hn
      exact ⟨sl, m4 b _ e2 hn⟩
    obtain ⟨a1, a2⟩ := left_fault hf hL hLn hout kp F fo (hid := [e, T]) (pair_none F.new ft.new) ⟨m1, m2, m3, ups⟩
    exact h _ a1 a2 ups
theorem flight_fault {C : Addr} {msg : Str} {outer : List Env} {L e : Addr} {Q : Unit → Shared → Prop} (hf : env.frame = some L) (hk : env.scope.kind ≠ .module) (hL : ∃ m, s.heap.Ns L m) (hLn : s₀.heap.get? L = none)
    (hout : ∀ f ∈ outer, FrameAt s₀.heap f) (kp : Kp s₀ s) (F : Fault true C msg s₀.heap s.heap e) (h : ∀ s', Fault true C msg s₀.heap s'.heap e → Kp s₀ s' → s.heap.UpToSlots s'.heap → Q () s') :
    wpAny (model c.prog c.w) A (setFlight (.ref e) none) Q E s := by
  obtain ⟨oe, vs, t, fo, htr⟩ := F.ex
  have ffs := frames_hid hf hk hL fun f hf => (hout f hf).keep kp.heap
  rcases htr with ⟨h1, _⟩ | ⟨T, oT, ts, ft⟩
  · exact tf_ h1
  · refine wpAny_setFlight_noneW (base := hideAll s.heap ([e, T] ++ (env :: outer).filterMap (·.frame))) (fun b ob eb => of_hideAll _ eb) (ffs [e, T]) ⟨oe, vs, T, oT, ts, fo.he, ⟨fo.cls, fo.h0⟩, fo.data, ft.h1, hideAll_none _ (.tail _ (.head _)), ft.ne, ft.hT, ft.data, ft.h3⟩ fun h₂ m1 m2 m3 m4 => ?_
    have ups : ∀ b o, s.heap.get? b = some o → (∀ vs, o.data ≠ .fields vs) → ∃ sl, h₂.get? b = some { o with slots := sl } := fun b o eb hn => ⟨o.slots, m4 b o eb hn⟩
    obtain ⟨a1, a2⟩ := left_fault hf hL hLn hout kp F fo (hid := [e, T]) (pair_none F.new ft.new) ⟨m1, m2, m3, ups⟩
    exact h _ a1 a2 ups
end
end
section
open PySem PySem.W PyProof.Rows PySem.Float64
variable [Lo]
noncomputable abbrev VEbm : List Value := [.type "ValueError", .type "Exception", .type "BaseException", .type "object"]
/-- the program's own class of faults -/
inductive SErr (h : Heap) (C : Addr) : Prop
  | mk (N : _) (nm : _) (q : _) (bs : _) (hdct : _) (sn : _) (sub : _) (ab : _) (col : _) (dd : _) (k0 : _) (k1 : _) (k2 : _) (k3 : _) (k5 : _) (mN : _) : h.get? C = some (excClassObj nm q C N bs VEbm hdct sn sub ab col dd k0 k1 k2 k3 k5 "ValueError.__new__") → h.Ns N mN → mN "__init__" = none → mN "__str__" = none → SErr h C
theorem Keep.serr {h h' : Heap} (k : Keep h h') {C : Addr} (x : SErr h C) : SErr h' C := by
  obtain ⟨N, nm, q, bs, hdct, sn, sub, ab, col, dd, k0, k1, k2, k3, k5, mN, hC, hN, r, r'⟩ := x
  exact ⟨N, nm, q, bs, hdct, sn, sub, ab, col, dd, k0, k1, k2, k3, k5, mN, k.at' _ _ hC (soft_of (fun _ _ e => Data.noConfusion e) (.inl fun _ e => Data.noConfusion e)), k.ns hN, r, r'⟩
theorem Fault.of_made {C : Addr} {msg : Str} {tk : Tok} {h₀ h h' : Heap} {e : Addr} (k : Keep h₀ h) (m : Heap.MadeExcOf h h' e (.ref C) [.str msg tk]) : Fault false C msg h₀ h' e := by
  obtain ⟨t, h1, h2, h3⟩ := m.there
  exact ⟨⟨_, _, t, ⟨h1, rfl, rfl, (show 1 < 6 by decide), rfl, _, tk, 0, h3, rfl, rfl⟩, .inl ⟨rfl, rfl⟩⟩, k.none m.new⟩
theorem Fault.base {b : Bool} {C : Addr} {msg : Str} {h₀ h₁ h : Heap} {e : Addr} (k : Keep h₀ h₁) (F : Fault b C msg h₁ h e) : Fault b C msg h₀ h e := by
  obtain ⟨oe, vs, t, fo, q⟩ := F.ex
  refine ⟨⟨oe, vs, t, fo, ?_⟩, k.none F.new⟩
  rcases q with q | ⟨T, oT, ts, x⟩
  · exact .inl q
  · exact .inr ⟨T, oT, ts, { x with new := k.none x.new }⟩
section
variable {c : Cfg} {n : Nat} {names : Names} {o : Own} {ρ : Vars} {cl : List Str} {A : Around} {E : Value → Shared → Prop} {s s₀ : Shared} {env : Env} {X X₀ : List Addr} {N : Own → Vars → Prop} {R : D → Prop} {C : Addr} {msg : Str}
/-- statements that end in the fault -/
noncomputable def ExR (c : Cfg) (n : Nat) (names : Names) (cl : List Str) (o : Own) (ρ : Vars) (st : List Stmt) (C : Addr) (msg : Str) : Prop :=
  ∀ (A : Around) (env : Env) (X X₀ : List Addr) (s₀ s : Shared) (E : Value → Shared → Prop), OkA c n A → env.scope.names = names → WfAt c cl s₀ env → EnvOK o X s.heap env ρ → Base cl s₀ env s → XOK o X X₀ s₀ →
    (∀ e s', Fault false C msg s₀.heap s'.heap e → Kp s₀ s' → (∃ m, s'.heap.Ns env.locals m) → E (.ref e) s') → wpAny (model c.prog c.w) A (execs st env) (fun _ _ => False) E s
theorem ExR.cons {st : Stmt} {rest : List Stmt} (h : Ex1 c n names cl o ρ st (fun o' ρ' => ExR c n names cl o' ρ' rest C msg) (fun _ => False)) : ExR c n names cl o ρ (st :: rest) C msg := fun A env X X₀ s₀ s E hA hn hW W B x hE =>
  wpAny_execs_cons (then_ (h A env X X₀ s₀ s E hA hn hW W B x) fun f s' a => by
    cases f with
    | next => obtain ⟨o', ρ', X', hN, nx⟩ := a; exact hN A env X' X₀ s₀ s' E hA hn hW nx.ok nx.base nx.xok hE
    | ret v => obtain ⟨d, hd, _⟩ := a; exact hd.elim
    | brk => exact a.elim
    | cont => exact a.elim)
theorem ExR.if_ {t : Expr} {body orelse rest : List Stmt} {pos : Pos} (h : Tr c n names o ρ t true) (h₁ : ExR c n names cl o ρ body C msg) : ExR c n names cl o ρ (.If t body orelse pos :: rest) C msg := fun A env X X₀ s₀ s E hA hn hW W B x hE => by
  refine wpAny_execs_cons (wpAny_If (then_ (h A env X s E hA hn (hW _ _ _ _ W B) W) fun b' s₁ g => ?_))
  obtain ⟨rfl, k⟩ := g
  simp only [if_true]
  exact then_ (h₁ A env X X₀ s₀ s₁ E hA hn hW (W.keeps k.heap) (B.step k) x hE) fun _ _ q => q.elim
theorem ExR.raise {x : Str} {np cp cpos pos : Pos} {k : Nat} {rest : List Stmt} (hf : Ev c n names o ρ (.Name x np) (.val (.ref C))) (hC : ∀ h, c.Wf h → SErr h C) :
    ExR c n names cl o ρ (.Raise (some (.Call (.Name x np) [.Constant (.str msg) k cp] [] cpos)) none pos :: rest) C msg := fun A env X X₀ s₀ s E hA hn hW W B xo hE => by
  have hWs := hW _ _ _ _ W B
  refine wpAny_execs_cons ?_
  obtain ⟨N, nm, q, bs, hdct, sn, sub, ab, col, dd, k0, k1, k2, k3, k5, mN, hCo, hN, hi, hst⟩ := hC _ hWs
  have hns : noStars [.Constant (.str msg) k cp] = true := rfl
  refine wpAny_Raise_call_sub (C := C) (N := N) (nm := nm) (q := q) (bs := bs) (hdct := hdct) (sn := sn) (sub := sub) (ab := ab) (col := col) (dd := dd) (k0 := k0) (k1 := k1) (k2 := k2) (k3 := k3) (k5 := k5) PySem.F.excBase_ValueError hA.handled (any_false_of (noStars_each hns env cpos)) hi ?_
  refine then_ (hf A env X s E hA hn hWs W) fun v s₁ g => ?_
  obtain ⟨r, kp⟩ := g
  obtain rfl := r.inv
  refine ⟨rfl, evalArgs_plain' (noStars_each hns env cpos) rfl (wpAny_items_cons (wpAny_Constant_str (wpAny_items_nil (wpAny_evalAll_nil ?_))))⟩
  refine ⟨rfl, show 1 ≤ sizeLine by decide, kp.heap.at' _ _ hCo (soft_of (fun _ _ e => Data.noConfusion e) (.inl fun _ e => Data.noConfusion e)), kp.heap.ns hN, fun h' e m => ?_⟩
  have k2 : Kp s₁ { s₁ with toks := s₁.toks + 1 } := .tok
  have k02 := B.kp.trans (kp.trans k2)
  refine hE e _ (Fault.of_made k02.heap m) ⟨k02.heap.trans (.of m.keeps), k02.os, k02.gens⟩ ?_
  obtain ⟨m', hm⟩ := W.ns
  exact ⟨m', (kp.heap.ns hm).keeps m.keeps⟩
/-- a call that ends in the fault -/
structure FnR (c : Cfg) (n : Nat) (f : Value) (ds : List D) (ks : List (Str × D)) (C : Addr) (msg : Str) : Prop where
  callee : ∀ h, c.Wf h → Callee h f
  run : ∀ (A : Around) (X : List Addr) (s : Shared) (E : Value → Shared → Prop) (vs kvs : List Value) (outer : List Env), OkA c n A → A.frames = some outer → (∀ f ∈ outer, FrameAt s.heap f) → c.Wf s.heap → Alive X s.heap → Reps s.heap X vs ds → Reps s.heap X kvs (ks.map (·.2)) →
    (∀ e s', Fault true C msg s.heap s'.heap e → Kp s s' → E (.ref e) s') → wpAny (model c.prog c.w) A (call f vs ((ks.map (·.1)).zip kvs)) (fun _ _ => False) E s
theorem newEnv_frame {scope : Scope} {L : Addr} {g : Addr} {cells : List (Str × Addr)} {q : Str} {f : Option Addr} {code : Value} {b : Addr} : (newEnv scope L g cells q f code none b).frame = some L := rfl
theorem FnR.def {a : Addr} {fd : FuncData} {body : List Stmt} (F : IsDef c a fd) (hbody : fd.body = .stmts body) {ps : List Str} {ds bds : List D} {ks : List (Str × D)}
    (hps : ∀ x ∈ ps, fd.scope.names.lookup x = some .local ∨ fd.scope.names.lookup x = some .cell)
    (hbind : ∀ (s : Shared) (X : List Addr) (vs kvs : List Value), c.Wf s.heap → Reps s.heap X vs ds → Reps s.heap X kvs (ks.map (·.2)) → ∃ bvs, BindsTo s fd ⟨vs, (ks.map (·.1)).zip kvs⟩ (ps.zip bvs) ∧ Reps s.heap X bvs bds ∧ ps.length = bvs.length)
    (hex : ExR c n fd.scope.names [] none (ps.zip bds).reverse body C msg) : FnR c (n + 1) (.ref a) ds ks C msg :=
  ⟨fun h hW => by obtain ⟨o, ho, hd, _⟩ := F.at' h hW; exact .func ho hd, fun A X s E vs kvs outer hA hfr hout hW hX r rk hE => by
    obtain ⟨bvs, hb, rb, hl⟩ := hbind s X vs kvs hW r rk
    refine F.run (args := ⟨vs, (ks.map (·.1)).zip kvs⟩) hbody hps hl hA hW hX hb rb fun env s' e1 W B hA' e4 => ?_
    have hL : env.frame = some env.locals := by rw [e4]; rfl
    refine then_ (hex (A.deeper env) env X X s s' _ hA' (by rw [e1]) (.of hW) W B rfl fun e s'' Ft kp hns => ?_) fun f s'' a => a.elim
    exact leave_fault (s₀ := s) (Around.frames_deeper hfr) hL (by rw [W.kind]; decide) hns B.loc hout kp Ft fun s₃ F₃ k₃ => hE e s₃ F₃ k₃⟩
end
end
section
set_option maxRecDepth 100000
open PySem PySem.W PyProof.Rows PySem.Float64
variable [Lo]
section
variable {prog : Program} {w : World} {A : Around} {E : Value → Shared → Prop} {h : Heap} {g : Array GenState} {d : Drawn} {t : Nat} {os : OsState} {C e t0 : Addr}
/-- a fault of the program's own class, its arguments at t0 -/
noncomputable def OwnAt (h : Heap) (C e t0 : Addr) : Prop := ∃ o vs, h.get? e = some o ∧ o.cls = .ref C ∧ o.data = .fields vs ∧ vs[0]? = some (.ref t0)
theorem own_bexcArgs {M : Model} {items : List Value} {Q : Value × List Value → Shared → Prop} {s : Shared} (x : OwnAt s.heap C e t0) (ht : s.heap.TupAt t0 items) (hq : Q (.ref t0, items) s) :
    wpAny M A (Builtin.BaseException.bexcArgs (.ref e)) Q E s := by
  obtain ⟨o, vs, ho, _, hd, h0⟩ := x
  obtain ⟨ot, k, hto, _, htd⟩ := ht
  unfold Builtin.BaseException.bexcArgs
  refine wpAny_bind (wpAny_field ho hd h0 (wpAny_bind (wpAny_seqItems hto htd ?_)))
  have : items.toArray.toList = items := by simp
  show wpAny M A (pure (Value.ref t0, items.toArray.toList)) Q E s
  rw [this]; exact wpAny_pure hq
theorem own_check_str {M : Model} {Q : Unit → Shared → Prop} (S : SErr h C) (x : OwnAt h C e t0) (hq : Q () ⟨h, g, d, t, os⟩) : wpAny M A (checkBuiltinCall "BaseException.__str__" ⟨[.ref e], []⟩) Q E ⟨h, g, d, t, os⟩ := by
  obtain ⟨N, nm, q, bs, hdct, sn, sub, ab, col, dd, k0, k1, k2, k3, k5, mN, hC, hN, hi, hst⟩ := S
  obtain ⟨o, vs, hx, hc, hd, h0⟩ := x
  have hk : builtinKind "BaseException.__str__" = some .slot := by decide +kernel
  have hsplit : splitId "BaseException.__str__" = some ("BaseException", "__str__") := by decide +kernel
  have hcB : (Value.ref C :: VEbm).contains (.type "BaseException") = true := by rw [List.contains_cons]; rfl
  have ha := F.args_bexc_str (.ref e)
  simp only [checkBuiltinCall, hk, hsplit]
  refine wpAny_bind ?_
  · unfold isInstance
    repeat (first | (with_reducible refine wpAny_loadPart_at hx ?_; rw [hc]) | (with_reducible refine wpAny_isSubtype_exc hC ?_; rw [hcB]) | wp_step)
    exact hq
theorem own_callSpecial_str {m : Str} {tk : Tok} {Q : Option Value → Shared → Prop} (S : SErr h C) (x : OwnAt h C e t0) (ht : h.TupAt t0 [.str m tk]) (hq : Q (some (.str m tk)) ⟨h, g, d, t, os⟩) :
    wpAny (model prog w) A (callSpecial? (.ref e) "__str__") Q E ⟨h, g, d, t, os⟩ := by
  have S' := S
  have x' := x
  obtain ⟨N, nm, q, bs, hdct, sn, sub, ab, col, dd, k0, k1, k2, k3, k5, mN, hC, hN, hi, hst⟩ := S
  obtain ⟨o, vs, hx, hc, hd, h0⟩ := x
  have FX := F.excStr_ValueError
  simp only [callSpecial?]
  refine wpAny_bind ?_
  unfold specialOf
  refine wpAny_bind ?_
  unfold typeOf
  refine wpAny_bind (wpAny_loadPart_at hx (wpAny_pure ?_))
  rw [hc]
  refine wpAny_typeLookup_exc hC hN F.excBase_ValueError.mroIs FX.str.lookup ?_
  rw [hst]
  simp only [FX.str.bind]
  refine wpAny_holding (wpAny_bind (wpAny_pure (wpAny_bind ?_)))
  refine wpAny_call (codeAny_call_builtin FX.str.plain F.entry_bexc_str (own_check_str S' x' ?_))
  unfold Builtin.«BaseException.__str__»
  repeat (first | with_reducible refine own_bexcArgs x' ht ?_ | wp_step)
  exact hq
theorem own_strOf (hu : A.units < cLine) {m : Str} {tk : Tok} {Q : Value → Shared → Prop} (S : SErr h C) (x : OwnAt h C e t0) (ht : h.TupAt t0 [.str m tk]) (hq : Q (.str m tk) ⟨h, g, d, t, os⟩) :
    wpAny (model prog w) A (Builtin.Str.strOf (.ref e)) Q E ⟨h, g, d, t, os⟩ := by
  unfold Builtin.Str.strOf
  repeat (first | with_reducible refine wpAny_cRoomFor hu ?_ | with_reducible refine own_callSpecial_str S x ht ?_ | wp_step)
  exact hq
theorem own_str {s : Shared} (hu : A.units + 2 < cLine) {m : Str} {tk : Tok} {Q : Value → Shared → Prop} (S : SErr s.heap C) (x : OwnAt s.heap C e t0) (ht : s.heap.TupAt t0 [.str m tk]) (hq : Q (.str m tk) s) :
    wpAny (model prog w) A (call (.type "str") [.ref e]) Q E s :=
  callType_new F.called_str (by decide) (F.typeCall_str_1 _) (F.newCall_str_1 _) (fun obj => F.args_object_init_2 obj _) F.entry_str_new
    (meets_str_new (S := fun A' R s' => A'.units + 1 < cLine ∧ SErr s'.heap C ∧ OwnAt s'.heap C e t0 ∧ s'.heap.TupAt t0 [.str m tk] ∧ R (.ok (.ret (.str m tk))) s')
      fun _ _ A' _ s' hq => own_strOf (A := A'.in1) hq.1 hq.2.1 hq.2.2.1 hq.2.2.2.1 hq.2.2.2.2)
    ⟨(show A.units + 1 + 1 < cLine from hu), S, x, ht, typeIs_str _ _ _, hq⟩
end
end
section
open PySem PySem.W PyProof.Rows PySem.Float64
variable [Lo]
section
variable {c : Cfg} {n : Nat} {A : Around} {E : Value → Shared → Prop} {s : Shared} {X : List Addr}
theorem old_none (h : Heap) (hW : c.Wf h) {b : Addr} (e : h.get? b = none) : Lo.old b = false := by
  cases q : Lo.old b with
  | false => rfl
  | true => obtain ⟨o, e'⟩ := c.olds h hW b q; rw [e] at e'; exact ns_ e'
theorem frameAt_of_ns {h : Heap} {f : Env} {L : Addr} (hk : f.scope.kind = .function) (hf : f.frame = some L) (ho : Lo.old L = false) (hn : ∃ m, h.Ns L m) : FrameAt h f := by
  obtain ⟨m, o, es, ep, e, d, _⟩ := hn
  exact ⟨by rw [hk]; decide, L, o, hf, e, by unfold frm; rw [d], ho⟩
theorem SErr.elim {b : Prop} {h : Heap} {C : Addr} (x : SErr h C) (k : ∀ N nm q bs hdct sn sub ab col dd k0 k1 k2 k3 k5, h.get? C = some (excClassObj nm q C N bs VEbm hdct sn sub ab col dd k0 k1 k2 k3 k5 "ValueError.__new__") → b) : b := by
  obtain ⟨N, nm, q, bs, hdct, sn, sub, ab, col, dd, k0, k1, k2, k3, k5, mN, hCo, _, _, _⟩ := x
  exact k _ _ _ _ _ _ _ _ _ _ _ _ _ _ _ hCo
theorem Fault.elim {β : Prop} {b : Bool} {C : Addr} {msg : Str} {h₀ h : Heap} {e : Addr} (F : Fault b C msg h₀ h e) (k : ∀ oe vs t ot tk n, h.get? e = some oe → oe.cls = .ref C → oe.data = .fields vs → vs[0]? = some (.ref t) → h.get? t = some ot → ot.cls = .type "tuple" → ot.data = .seq #[.str msg tk] n → β) : β := by
  obtain ⟨oe, vs, t, fo, _⟩ := F.ex
  obtain ⟨ot, tk, nn, hto, htc, htd⟩ := fo.tup
  exact k _ _ _ _ _ _ fo.he fo.cls fo.data fo.h0 hto htc htd
theorem lookC_val {h : Heap} {env : Env} {X : List Addr} {x : Str} {u : Value} (hW : c.Wf h) (hg : env.globals = mainGlobals) (hb : env.builtins = builtinsNs) (hk : env.kindOf x = some .globalImplicit) (hx : c.glob x = some (.val u)) : Look h env x u := by
  obtain ⟨v, l, r⟩ := c.look h env X x _ hW hg hb hk hx
  obtain rfl := r.inv; exact l
theorem EnvOK.lookV {o : Own} {h : Heap} {env : Env} {ρ : Vars} {x : Str} {u : Value} (W : EnvOK o X h env ρ) (hx : ρ.lookup x = some (.val u)) : Look h env x u := by
  obtain ⟨v, l, r⟩ := W.look x _ hx
  obtain rfl := r.inv; exact l
theorem own_tup {h h₅ : Heap} {C e L : Addr} {b : Bool} {msg : Str} {h₀ : Heap} (F : Fault b C msg h₀ h e) (ns : ∃ m, h.Ns L m) (sb : Heap.SameBut L h h₅) : ∃ t tk, OwnAt h₅ C e t ∧ h₅.TupAt t [.str msg tk] := by
  obtain ⟨m, ns⟩ := ns
  have eL : ∀ {b : Addr} {ob : Obj}, h.get? b = some ob → (∀ es n, ob.data ≠ .dict es n) → h₅.get? b = some ob := fun {b ob} e hn => by
    refine (sb.2 b ?_).trans e
    rintro rfl
    obtain ⟨o', es, ep, e', d', _⟩ := ns
    rw [e] at e'; obtain rfl := Option.some.inj e'; exact hn _ _ d'
  refine F.elim fun oe vs t ot tk nn he hcls hd h0 hto htc htd => ?_
  exact ⟨t, tk, ⟨oe, vs, eL he (by rw [hd]; exact fun _ _ e => Data.noConfusion e), hcls, hd, h0⟩, ot, nn, eL hto (by rw [htd]; exact fun _ _ e => Data.noConfusion e), htc, htd⟩
/-- the call that raises -/
theorem call_lam {lam : Value} {C : Addr} {msg : Str} {xc : Str} {p1 p2 : Pos} {outer : List Env} {env : Env} {ρ : Vars} {Q : Value → Shared → Prop} (hl : FnR c n lam [] [] C msg) (hA : OkA c n A) (fr : A.frames = some outer) (hout : ∀ f ∈ outer, FrameAt s.heap f) (hW : c.Wf s.heap) (W : EnvOK none X s.heap env ρ) (hx : ρ.lookup xc = some (.val lam)) (hdc : (xc == ("__debug__" : Str)) = false)
    (hE : ∀ e s₂, Fault true C msg s.heap s₂.heap e → Kp s s₂ → E (.ref e) s₂) : wpAny (model c.prog c.w) A (eval (.Call (.Name xc p1) [] [] p2) env) Q E s := by
  refine wpAny_Call_Name_kw (wpAny_Name ?_ hdc)
  refine wpAny_loadName_look W.kind W.glob W.built (W.lookV hx) ?_
  refine wpAny_callAny (P := fun x s' => x = ⟨[], []⟩ ∧ s' = s) (noStars_each (es := []) rfl env p2) rfl ?_ ?_
  · exact evalArgs_plain' (noStars_each (es := []) rfl env p2) rfl (wpAny_items_nil (wpAny_evalAll_nil ⟨rfl, rfl⟩))
  · intro x s' q
    rw [q.1, q.2]
    exact ⟨hl.callee _ hW, then_ (hl.run A X _ _ [] [] outer hA fr hout hW W.alive .nil .nil hE) fun _ _ h => h.elim⟩
/-- return str(fault) -/
theorem ret_str {C : Addr} {msg : Str} {xf xstr : Str} {p5 p6 p7 p8 : Pos} {env : Env} {e t : Addr} {tk : Tok} {Q : Flow → Shared → Prop} {m : Str → Option Value} (hk : env.scope.kind = .function) (hg : env.globals = mainGlobals) (hb : env.builtins = builtinsNs) (hW : c.Wf s.heap) (kstr : env.kindOf xstr = some .globalImplicit) (gstr : c.glob xstr = some (.val (.type "str")))
    (kf : env.kindOf xf = some .local) (ns : s.heap.Ns env.locals m) (hm : m xf = some (.ref e)) (hC : SErr s.heap C) (q1 : OwnAt s.heap C e t) (q2 : s.heap.TupAt t [.str msg tk]) (hu : A.units + 2 < cLine) (hdf : (xf == ("__debug__" : Str)) = false) (hdstr : (xstr == ("__debug__" : Str)) = false)
    (h : Q (.ret (.str msg tk)) s) : wpAny (model c.prog c.w) A (execs [.Return (some (.Call (.Name xstr p5) [.Name xf p6] [] p7)) p8] env) Q E s := by
  refine wpAny_execs_cons (wpAny_Return_some (wpAny_Call_Name_kw (wpAny_Name ?_ hdstr)))
  refine wpAny_loadName_look hk hg hb (lookC_val (X := []) hW hg hb kstr gstr) ?_
  have hns : noStars [.Name xf p6] = true := rfl
  refine wpAny_callAny (P := fun x s' => x = ⟨[.ref e], []⟩ ∧ s' = s) (noStars_each hns env p7) rfl ?_ ?_
  · refine evalArgs_plain' (noStars_each hns env p7) rfl (wpAny_items_cons (wpAny_Name ?_ hdf))
    exact wpAny_loadName_look hk hg hb (.loc kf ns hm) (wpAny_items_nil (wpAny_evalAll_nil ⟨rfl, rfl⟩))
  · intro x s' q
    rw [q.1, q.2]
    exact ⟨.type _, own_str hu hC q1 q2 h⟩
/-- try: call() / except C as fault: return str(fault) -/
theorem refused_run {a C : Addr} {fd : FuncData} {msg : Str} {xc xf xs xstr : Str} {p1 p2 p3 p4 p5 p6 p7 p8 p9 p10 : Pos} {rest : List Stmt} {lam : Value} {outer : List Env} (F : IsDef c a fd)
    (hbody : fd.body = .stmts (.Try [.Expr (.Call (.Name xc p1) [] [] p2) p3] [.ExceptHandler (some (.Name xs p4)) (some xf) [.Return (some (.Call (.Name xstr p5) [.Name xf p6] [] p7)) p8] p9] [] [] p10 :: rest))
    (hc : fd.scope.names.lookup xc = some .local) (hf : fd.scope.names.lookup xf = some .local) (hs : fd.scope.names.lookup xs = some .globalImplicit) (hstr : fd.scope.names.lookup xstr = some .globalImplicit) (hcf : xf ≠ xc)
    (gs : c.glob xs = some (.val (.ref C))) (gstr : c.glob xstr = some (.val (.type "str"))) (hC : ∀ h, c.Wf h → SErr h C) (hdc : (xc == ("__debug__" : Str)) = false) (hdf : (xf == ("__debug__" : Str)) = false) (hds : (xs == ("__debug__" : Str)) = false) (hdstr : (xstr == ("__debug__" : Str)) = false)
    (hbind : BindsTo s fd ⟨[lam], []⟩ [(xc, lam)]) (hl : FnR c n lam [] [] C msg) (hm : msg.length ≤ lim) (hA : OkA c (n + 1) A) (hfr : A.frames = some outer) (hout : ∀ f ∈ outer, FrameAt s.heap f) (hW : c.Wf s.heap) (hX : Alive X s.heap) :
    wpAny (model c.prog c.w) A (call (.ref a) [lam]) (Good X (.str msg) s) E s := by
  refine F.run (args := ⟨[lam], []⟩) (ps := [xc]) (bvs := [lam]) (bds := [.val lam]) hbody (fun x hx => by rw [List.mem_singleton.mp hx]; exact .inl hc) rfl hA hW hX hbind (.cons (.val _) .nil) fun env s₁ e1 W B hB e4 => ?_
  have hL : env.frame = some env.locals := by rw [e4]; rfl
  have hk : env.scope.kind = .function := W.kind
  have hk' : env.scope.kind ≠ .module := by rw [hk]; decide
  have hp : (env.scope.kind == .class || (env.scope.kind == .module && env.locals != env.globals)) = false := by rw [hk]; rfl
  have hW₁ : c.Wf s₁.heap := c.keeps _ _ B.kp.heap hW
  have hold : Lo.old env.locals = false := old_none _ hW B.loc
  have fr1 : (A.deeper env).frames = some (env :: outer) := Around.frames_deeper hfr
  have kfun : ∀ {x k}, fd.scope.names.lookup x = some k → env.kindOf x = some k := fun {x k} h => by unfold Env.kindOf; rw [e1]; exact h
  refine wpAny_execs_cons (wpAny_Try_except (wpAny_execs_cons (wpAny_Expr_any ?_ (by simp [interactive, W.kind]) rfl)))
  refine call_lam hl hB fr1 (fun f hf => ?_) hW₁ W (by simp) hdc fun e s₂ Ft k₂ => ?_
  · rcases List.mem_cons.mp hf with rfl | hf
    · exact frameAt_of_ns hk hL hold W.ns
    · exact (hout f hf).keep B.kp.heap
  have kp₂ := B.kp.trans k₂
  have ns₂ : ∃ m, s₂.heap.Ns env.locals m := by obtain ⟨m, hm⟩ := W.ns; exact ⟨m, k₂.heap.ns hm⟩
  refine take_fault fr1 hL hk' ns₂ B.loc hout kp₂ (Ft.base B.kp.heap) fun s₃ F₃ k₃ up₃ => ?_
  obtain ⟨m₂, ns₂⟩ := ns₂
  have ns₃ : ∃ m, s₃.heap.Ns env.locals m := ⟨m₂, up₃.ns ns₂⟩
  have hW₃ : c.Wf s₃.heap := c.keeps _ _ k₃.heap hW
  -- the handler's test
  refine wpAny_handleBy_cons (codeAny_handlers_test ?_) (by intro q; cases q)
  refine wpAny_Name (wpAny_loadName_look W.kind W.glob W.built (lookC_val (X := X) hW₃ W.glob W.built (kfun hs) gs) ?_) hds
  refine (hC _ hW₃).elim fun N nm q bs hdct sn sub ab col dd k0 k1 k2 k3 k5 hCo => F₃.elim fun oe vs t ot tk nn he hcls _ _ _ _ _ => ?_
  refine wpAny_excMatches_sub_self (h := s₃.heap) (g := s₃.gens) (d := s₃.drawn) (t := s₃.toks) (os := s₃.os) hCo he hcls (by decide) ?_
  -- its suite
  refine codeAny_handlers_suite_as ?_
  refine flight_fault hL hk' ns₃ B.loc hout k₃ F₃ fun s₄ F₄ k₄ up₄ => ?_
  obtain ⟨m₃, ns₃⟩ := ns₃
  have ns₄ := up₄.ns ns₃
  refine wpAny_storeName_local (kfun hf) ns₄ (fun h₅ ns₅ sb₅ => ?_) hp
  have k₅ : Kp s { s₄ with heap := h₅, toks := s₄.toks + 1 } := ⟨k₄.heap.but fun b o e5 e6 => (sb₅.2 b (by rintro rfl; rw [B.loc] at e5; exact ns_ e5)).trans e6, k₄.os, k₄.gens⟩
  have hW₅ : c.Wf h₅ := c.keeps _ _ k₅.heap hW
  refine Exists.elim (own_tup F₄ ⟨_, ns₄⟩ sb₅) fun t q => Exists.elim q fun tk q => ?_
  refine ret_str (s := { s₄ with heap := h₅, toks := s₄.toks + 1 }) W.kind W.glob W.built hW₅ (kfun hstr) gstr (kfun hf) ns₅ (by simp) (hC _ hW₅) q.1 q.2 ?_ hdf hdstr ?_
  · have := hA.units; show A.units + 3 + 2 < cLine; exact z218 this
  -- the name goes
  refine wpAny_nameGoes_keeps (kfun hf) ns₅ hp fun h₆ v₆ ns₆ sb₆ => ?_
  refine ⟨.str _ _ hm, ⟨k₅.heap.but fun b o e5 e6 => (sb₆.2 b (by rintro rfl; rw [B.loc] at e5; exact ns_ e5)).trans e6, k₅.os, k₅.gens⟩⟩
end
end
section
open PySem PySem.W PyProof.Rows PySem.Float64
variable [Lo]
section
variable {c : Cfg} {n : Nat} {names : Names} {o : Own} {ρ : Vars} {A : Around} {E : Value → Shared → Prop} {s : Shared} {env : Env} {X : List Addr}
/-- a call of a name that ends in the fault -/
theorem callR {x : Str} {xp pos : Pos} {as : List Expr} {kws : List Keyword} {f : Value} {ds : List D} {ks : List (Str × D)} {C : Addr} {msg : Str} {outer : List Env} (hf : Ev c n names o ρ (.Name x xp) (.val f)) (ha : Evs c n names o ρ as ds) (hk : Kws c n names o ρ kws ks) (h : FnR c n f ds ks C msg) (hs : noStars as = true)
    (hA : OkA c n A) (hfr : A.frames = some outer) (hout : ∀ f ∈ outer, FrameAt s.heap f) (hn : env.scope.names = names) (hW : c.Wf s.heap) (W : EnvOK o X s.heap env ρ) (hE : ∀ e s', Fault true C msg s.heap s'.heap e → Kp s s' → E (.ref e) s') :
    wpAny (model c.prog c.w) A (eval (.Call (.Name x xp) as kws pos) env) (fun _ _ => False) E s := by
  refine wpAny_Call_Name_kw (then_ (hf A env X s E hA hn hW W) fun v s₁ g => ?_)
  obtain ⟨r, k⟩ := g
  obtain rfl := r.inv
  refine wpAny_callAny (P := fun a s' => Kp s s' ∧ Reps s'.heap X a.pos ds ∧ ∃ kvs, a.kw = (ks.map (·.1)).zip kvs ∧ Reps s'.heap X kvs (ks.map (·.2))) (noStars_each hs env pos) (kws_all (hk.1 env pos)) ?_ ?_
  · refine evalArgs_plain' (noStars_each hs env pos) (kws_all (hk.1 env pos)) (then_ (ha A env X s₁ E pos hA hn (c.keeps _ _ k.heap hW) (W.keeps k.heap)) fun vs s₂ g₁ => then_ (hk.2 A env X s₂ E pos hA hn (c.keeps _ _ (k.trans g₁.2).heap hW) (W.keeps (k.trans g₁.2).heap)) fun kvs s₃ g₂ => ?_)
    exact ⟨(k.trans g₁.2).trans g₂.2, g₁.1.kp g₂.2, kvs, by rw [kws_names (hk.1 env pos)], g₂.1⟩
  · rintro ⟨vs, kw⟩ s' ⟨k', r, kvs, rfl, rk⟩
    have hW' := c.keeps _ _ k'.heap hW
    exact ⟨h.callee _ hW', then_ (h.run A X s' E vs kvs outer hA hfr (fun f hf => (hout f hf).keep k'.heap) hW' (W.alive.keeps k'.heap) r rk fun e s'' F k'' => hE e s'' (F.base k'.heap) (k'.trans k'')) fun _ _ q => q.elim⟩
/-- a lambda without parameters, and what its closure holds -/
structure IsLam (c : Cfg) (a : Addr) (fd : FuncData) (body : Expr) (ρ : Vars) : Prop where
  at' : ∀ h, c.Wf h → ∃ o, h.get? a = some o ∧ o.data = .func fd ∧ h.NoLimit ∧ h.CodeRec fd.code fd.qualname
  fr : c.frames = none
  glob : fd.globals = mainGlobals
  built : fd.builtins = builtinsNs
  kind : fd.scope.kind = .function
  co : fd.scope.isCoroutine = false
  gen : fd.scope.isGenerator = false
  body : fd.body = .expr body
  bind : bindArgs fd ⟨[], []⟩ = pure []
  noCell : ∀ x, (x, NameKind.cell) ∉ fd.scope.names
  apart : fd.closure.Pairwise fun x y => x.2 ≠ y.2
  cells : ∀ h, c.Wf h → ∀ x ca, (x, ca) ∈ fd.closure → (∃ v, h.IsCell ca v) ∧ fd.scope.names.lookup x = some .free
  free : ∀ x, fd.scope.names.lookup x = some .free → ∃ ca, fd.closure.lookup x = some ca
  caps : ∀ h, c.Wf h → ∀ x d, ρ.lookup x = some d → ∃ ca v, fd.closure.lookup x = some ca ∧ h.IsCell ca (some v) ∧ Rep h [] v d ∧ Atom d ∧ fd.scope.names.lookup x = some .free ∧ (x == ("__classdict__" : Str)) = false
theorem FnR.lam {a C : Addr} {fd : FuncData} {msg : Str} {x : Str} {xp pos : Pos} {as : List Expr} {kws : List Keyword} {f : Value} {ds : List D} {ks : List (Str × D)} (F : IsLam c a fd (.Call (.Name x xp) as kws pos) ρ)
    (hf : Ev c n fd.scope.names none ρ (.Name x xp) (.val f)) (ha : Evs c n fd.scope.names none ρ as ds) (hk : Kws c n fd.scope.names none ρ kws ks) (h : FnR c n f ds ks C msg) (hs : noStars as = true) : FnR c (n + 1) (.ref a) [] [] C msg :=
  ⟨fun h hW => by obtain ⟨o, ho, hd, _⟩ := F.at' h hW; exact .func ho hd, fun A X s E vs kvs outer hA hfr hout hW hX r rk hE => by
    obtain rfl := Reps.none r
    obtain rfl := Reps.none rk
    obtain ⟨o, ho, hd, hlim, hcd⟩ := F.at' _ hW
    refine wpAny_call (pos := []) (kw := []) (kla_callFunE (A := A) (by have := hA.depth; exact z270 this) ho hd F.co F.gen F.body hcd ?_)
    rw [F.bind]
    refine wpAny_pure ?_
    rw [F.glob, F.built]
    refine wpAny_newFrame (cl := fd.closure) (binds := []) (ds := []) hW F.kind hX (F.cells _ hW) F.apart F.free (by intro _ h; cases h) .nil (by intro _ e; exact ns_ e) fun env s' e1 e2 e3 e4 W B => ?_
    refine ⟨B.kp.heap.noLimit hlim, kla_codeExpr ?_⟩
    have hL : env.frame = some env.locals := by rw [e4]; rfl
    have W' : EnvOK none X s'.heap env ρ := { W with
      look := fun x d hx => by
        obtain ⟨ca, v, q1, q2, q3, q4, q5, q6⟩ := F.caps _ hW x d hx
        refine ⟨v, .free (by unfold Env.kindOf; rw [e1]; exact q5) q6 (by rw [e3]; exact cellsFrom_old _ _ _ _ _ q1 (F.noCell x)) (B.kp.heap.cell q2), ?_⟩
        exact q4.rep (q3.keeps B.kp.heap) }
    have hold : Lo.old env.locals = false := old_none _ hW B.loc
    have fr1 : (A.deeper env).frames = some (env :: outer) := Around.frames_deeper hfr
    refine then_ (callR hf ha hk h hs (hA.deeper F.fr) fr1 (fun f hf => ?_) (by rw [e1]) (c.keeps _ _ B.kp.heap hW) W' fun e s'' Ft kp => ?_) fun _ _ q => q.elim
    · rcases List.mem_cons.mp hf with rfl | hf
      · exact frameAt_of_ns W.kind hL hold W.ns
      · exact (hout f hf).keep B.kp.heap
    · refine leave_fault fr1 hL (by rw [W.kind]; decide) (by obtain ⟨m, hm⟩ := W.ns; exact ⟨m, kp.heap.ns hm⟩) B.loc hout (B.kp.trans kp) (Ft.base B.kp.heap) fun s₃ F₃ k₃ => hE e s₃ F₃ k₃⟩
/-- a lambda is made -/
theorem lam_make {cc P : Addr} {ps : Array Value} {body : Expr} {scope : Scope} {pos : Pos} {Q : Value → Shared → Prop} {clos : List (Str × Addr)} (hg : env.globals = mainGlobals) (hcode : env.code = .ref cc) (hb : BMain s.heap) (C : CodeHd s.heap cc P) (hP : s.heap.get? P = some (tabObj ps)) (ht : TriplesOk ps.toList) (hnf : codeAmong pos ps.toList = none) (hcl : closureFor scope env = pure clos)
    (h : ∀ pm c' ctv h' tk, Heap.ExtBut P s.heap h' → s.heap.objs.size ≤ h'.objs.size → h'.CodeRec (.ref c') (env.qual ++ "<lambda>") → h'.get? P = some (tabObj (ps ++ #[rawInt pos.line, rawInt pos.col, .ref c'])) →
      Q (.ref h'.objs.size) { s with heap := h'.push (kla_obj "<lambda>" (env.qual ++ "<lambda>") ⟨[], [], none, [], [], none, []⟩ body scope clos pm c' ctv), toks := tk }) :
    wpAny (model c.prog c.w) A (eval (.Lambda ⟨[], [], none, [], [], none, []⟩ body scope pos) env) Q E s := by
  rw [arm_eval_Lambda]
  obtain ⟨mg, bm, ob, hmg, hbm, hne, hbo, hcls, hdict, hdata⟩ := hb
  have hgP : mainGlobals ≠ P := fun q => by
    obtain ⟨o, es, ep, e, hd, _⟩ := hmg
    rw [q, hP] at e; obtain rfl := Option.some.inj e; cases hd
  have hne0 : bm ≠ mainGlobals := fun q => by
    obtain ⟨o, es, ep, e, hd, _⟩ := hmg
    rw [q, e] at hbo; obtain rfl := Option.some.inj hbo; rw [hd] at hdata; cases hdata
  have hneP : bm ≠ P := fun q => by rw [q, hP] at hbo; obtain rfl := Option.some.inj hbo; cases hcls
  refine wpAny_bind (wpAny_evalAll_nil ?_)
  refine wpAny_bind (wpAny_holding (wpAny_pure ?_))
  refine kla_makeFunction hcl hg hmg hcode C hP ht hnf hgP ⟨bm, ob, hbm, hne, hne0, hneP, hbo, hcls, hdict, hdata⟩ fun c' ctv h' tk hx h1 h2 hr hP' => ?_
  exact h _ c' ctv h' tk hx (by exact z409 h2 h1) hr hP'
end
end
section
open PySem PySem.W PyProof.Rows PySem.Float64
variable [Lo]
section
variable {c : Cfg} {n : Nat} {names : Names} {o : Own} {ρ : Vars} {cl : List Str} {A : Around} {E : Value → Shared → Prop} {s s₀ : Shared} {env : Env} {X X₀ : List Addr} {N : Own → Vars → Prop} {R : D → Prop}
/-- two names at once, the last one stored first -/
theorem Ex1.assignSwap {x y : Str} {px py tpos pos : Pos} {k : Nat} {e : Expr} {d₁ d₂ : D} (h : Ev c n names o ρ e (.tup [d₁, d₂])) (hx : storable names cl x) (hy : storable names cl y) (hN : N o ((x, d₁) :: (y, d₂) :: ρ)) (hox : noOwn o x) (hoy : noOwn o y)
    (hs : ∀ env : Env, swapsWithSole [.Tuple [.Name x px, .Name y py] k tpos] e pos.line env = pure false) (hw : ∀ env : Env, env.scope.names = names → env.scope.kind = .function → swappedStores [.Tuple [.Name x px, .Name y py] k tpos] e env = pure (some [x, y])) :
    Ex1 c n names cl o ρ (.Assign [.Tuple [.Name x px, .Name y py] k tpos] e pos) N R := fun A env X X₀ s₀ s E hA hn hW W B xo => by
  refine Assign_Tuple_swapped (then_ (h A env X s E hA hn (hW _ _ _ _ W B) W) fun v s₁ g => ?_) (hs env) (hw env hn W.kind)
  obtain ⟨r, kp⟩ := g
  obtain ⟨a, vs, ⟨ha, p, hl, rs⟩, rfl⟩ := r.inv
  obtain ⟨v₁, v₂, rfl, r₁, r₂⟩ := rs.two
  have e2 : ([x, y] : List Str).length = ([v₁, v₂] : List Value).toArray.size := rfl
  rw [e2]
  have ht : IsTup s₁.heap a ([v₁, v₂] : List Value).toArray := p.isTuple
  refine unpackItems_tuple hA.handled ht fun h' he => ?_
  have k₁ : Kp s₁ { s₁ with heap := h' } := ⟨.of fun b o e => he b o (Nat.ne_of_lt (Heap.lt_size e)) e, rfl, fun x => x⟩
  have nx := (Nx.kp (X := X) W B xo kp)
  have nx₁ := Nx.kp nx.ok nx.base nx.xok k₁
  refine wpAny_bind (wpAny_holding (bindName_ (wpAny_store nx₁.ok (stores_of hn nx₁.ok hy) hoy (r₂.kp k₁) fun h₂ tk b W₂ t => ?_)))
  have r₁' : Rep h₂ X v₁ d₁ := (r₁.kp k₁).keep (t.seqKeep nx₁.ok)
  have nx₂ : Nx cl s₀ X₀ env (mine o X) s o ((y, d₂) :: ρ) X { s₁ with heap := h₂, toks := tk } := (nx.trans' nx₁).trans' (.store W₂ nx₁.base hy.2 t xo)
  refine wpAny_bind (wpAny_holding (bindName_ (wpAny_store nx₂.ok (stores_of hn nx₂.ok hx) hox r₁' fun h₃ tk₃ b₃ W₃ t₃ => ?_)))
  exact wpAny_pure ⟨o, _, X, hN, nx₂.trans' (.store W₃ nx₂.base hx.2 t₃ xo)⟩
end
noncomputable def globT (C : Addr) : List (Str × D) := [("len", .val (.builtin "len")), ("sorted", .val (.builtin "sorted")), ("range", .val (.type "range")), ("divmod", .val (.builtin "divmod")), ("sum", .val (.builtin "sum")), ("zip", .val (.type "zip")),
  ("isinstance", .val (.builtin "isinstance")), ("str", .val (.type "str")), ("bool", .val (.type "bool")), ("int", .val (.type "int")), ("float", .val (.type "float")), ("fsum", .val (.builtin "math.fsum")), ("sumprod", .val (.builtin "math.sumprod")),
  ("ELLIPSIS_MARKER", .str "..."), ("StatisticsError", .val (.ref C)), ("_ellipsis_match", .val (.ref 49)), ("median_low", .val (.ref 69)), ("median_high", .val (.ref 76)), ("quantiles", .val (.ref 84)), ("covariance", .val (.ref 91)),
  ("_law_text", .val (.ref 96)), ("_law_draws", .val (.ref 103)), ("_law_rows", .val (.ref 110)), ("_law_blotted", .val (.ref 117)), ("_law_refused", .val (.ref 124)), ("_law_bound", .val (.ref 129))]
/-- what the program's global names stand for -/
structure Globs (c : Cfg) (C : Addr) : Prop where
  all : ∀ x d, (globT C).lookup x = some d → c.glob x = some d
section
variable {c : Cfg} {C : Addr} {n : Nat}
/-- the first row's data stand in the second -/
noncomputable def Sub (ρ ρ' : Vars) : Prop := ∀ x d, ρ.lookup x = some d → ρ'.lookup x = some d
theorem Sub.refl (ρ : Vars) : Sub ρ ρ := fun _ _ e => e
theorem Sub.nil (ρ : Vars) : Sub [] ρ := fun _ _ e => by cases e
theorem Sub.add {ρ ρ' : Vars} {x : Str} {d : D} (hx : ρ'.lookup x = some d) (h : Sub ρ ρ') : Sub ((x, d) :: ρ) ρ' := fun y e hy => by
  rw [List.lookup_cons] at hy
  cases hb : y == x with
  | true => rw [hb] at hy; obtain rfl := Option.some.inj hy; rw [beq_iff_eq.mp hb]; exact hx
  | false => rw [hb] at hy; exact h y e hy
theorem Sub.both {ρ ρ' bs : Vars} (h : Sub ρ ρ') : Sub (bs ++ ρ) (bs ++ ρ') := fun y e hy => by
  induction bs with
  | nil => exact h y e hy
  | cons p r ih =>
    obtain ⟨x, d⟩ := p
    rw [List.cons_append, List.lookup_cons] at *
    cases hb : y == x with
    | true => rw [hb] at hy; exact hy
    | false => rw [hb] at hy; exact ih hy
theorem Op2.ine (a b : Int) : Op2 c n (compareOp .NotEq) (.int a) (.int b) (.bool (!decide (a = b))) := fun A X s E v w _ _ _ r q => by
  obtain ⟨_, rfl⟩ := r.inv; obtain ⟨_, rfl⟩ := q.inv; exact P.ne_int ⟨by rw [show (a != b) = !decide (a = b) from rfl]; exact .bool _, .refl _⟩
end
end
section
local macro_rules | `(tactic| walk_at "ev name") => `(tactic| first
  | (with_reducible refine Ev.name ?_ (by decide +kernel); with_unfolding_all rfl)
  | (with_reducible refine Ev.glob (by with_unfolding_all rfl) ?_ (by decide +kernel); with_reducible first | exact Globs.all ‹_› _ _ (by with_unfolding_all rfl) | assumption))
local macro_rules | `(tactic| walk_at "ev step") => `(tactic| first
  | with_reducible exact Ev.int _ _ _
  | with_reducible exact Ev.bool _ _ _
  | (with_reducible refine Ev.str _ _ _ ?_; decide)
  | (with_reducible show isStarred _ = false; with_unfolding_all rfl)
  | (with_reducible show noStars _ = true; with_unfolding_all rfl)
  | (with_reducible show behindInMarks _ _ = false; with_unfolding_all rfl)
  | walk_at "ev name"
  | refine Ev.bin (d₁ := ?_) (d₂ := ?_) ?_ ?_ ?_
  | refine Ev.list (ds := ?_) (hl := ?_) ?_
  | refine Ev.tup (ds := ?_) (hl := ?_) ?_
  | (with_reducible show List.length _ ≤ lim; first | decide | (simp [lim]; done))
  | refine Ev.un (d₁ := ?_) ?_ ?_
  | refine Ev.cmp (d₁ := ?_) (d₂ := ?_) (hm := ?_) ?_ ?_ ?_
  | refine Ev.call (f := ?_) (ds := ?_) (ks := ?_) (hs := ?_) ?_ ?_ ?_ ?_
  | with_reducible exact Evs.nil
  | refine Evs.cons (d := ?_) (ds := ?_) (he := ?_) ?_ ?_
  | with_reducible exact Kws.nil
  | refine Kws.cons (d := ?_) (ks := ?_) ?_ ?_
  | refine Ev.item (d₁ := ?_) (d₂ := ?_) (hs := ?_) ?_ ?_ ?_
  | refine Tr.cmp (d₁ := ?_) (d₂ := ?_) (hm := ?_) ?_ ?_ ?_
  | with_reducible exact Op2.iadd _ _
  | with_reducible exact Op2.isub _ _
  | with_reducible exact Op2.ieq _ _
  | with_reducible exact Op2.ilt _ _
  | with_reducible exact Op2.igt _ _
  | with_reducible exact Op2.ile _ _
  | with_reducible exact Op2.ige _ _
  | (with_reducible refine Op2.imod _ _ ?_ ?_ <;> first | decide | omega)
  | (with_reducible refine Op2.idiv _ _ ?_ ?_ <;> first | decide | omega)
  | (with_reducible refine Op2.imul _ _ ?_; first | (left; decide) | (right; decide) | (left; omega) | (right; omega))
  | with_reducible exact Fn.lenL _
  | with_reducible exact Fn.lenS _
  | with_reducible exact Op1.ineg _
  | with_reducible exact Op2.ine _ _
  | with_reducible exact Op2.seq _ _
  | with_reducible exact Fn.isiBool _
  | with_reducible exact Fn.isiInt _
  | with_reducible exact Fn.isiFlt _
  | refine Tr.not ?_
  | exact fun _ _ => rfl
  | fail)
local macro_rules | `(tactic| walk_at "ev") => `(tactic| repeat' (walk_at "ev step"))
local macro_rules | `(tactic| walk_at "store") => `(tactic| exact ⟨by first | (left; with_unfolding_all rfl) | (right; with_unfolding_all rfl), by decide⟩)
local macro_rules | `(tactic| walk_at "sub") => `(tactic| repeat (first | exact Sub.nil _ | (refine Sub.add ?_ ?_; (with_unfolding_all rfl)) | fail))
section
open PySem PySem.W PyProof.Rows PySem.Float64
variable [Lo]
/-- the program's functions, by their place -/
noncomputable def theDef (i : Nat) : Str × Arguments × List Stmt × Scope := match PySem.Challenge.pw_rw0059_01.main.body[i]? with
  | some (.FunctionDef name params body _ _ _ scope _ _ _) => (name, params, body, scope)
  | _ => ("", ⟨[], [], none, [], [], none, []⟩, [], ⟨.function, [], false, false, []⟩)
noncomputable def bodyOf (i : Nat) : List Stmt := (theDef i).2.2.1
noncomputable def scopeOf (i : Nat) : Scope := (theDef i).2.2.2
noncomputable def namesOf (i : Nat) : Names := (scopeOf i).names
section
variable {c : Cfg} {C : Addr} {n : Nat}
theorem no_own {x : Str} : noOwn none x := fun _ _ e => by exact ns_ e
/-- the middle of an ordered list -/
noncomputable def midLow (ns : List Int) : Int := (srt ns).getD ((ns.length - 1) / 2) 0
noncomputable def midHigh (ns : List Int) : Int := (srt ns).getD (ns.length / 2) 0
theorem low_ex (G : Globs c C) (ns : List Int) (h1 : 0 < ns.length) (h2 : ns.length < 64) : Ex c n (namesOf 6) [] none [("data", LI ns)] (bodyOf 6) (fun _ _ => False) (· = .int (midLow ns)) := by
  have hl : (srt ns).length = ns.length := srt_length ns
  refine Ex.cons (Ex1.assign (d := LI (srt ns)) (by walk_at "ev"; exact Fn.sorted ns h2) (by walk_at "store") ?_ no_own (by intro env _ _; rfl))
  refine Ex.cons (Ex1.assign (d := .int ns.length) ?_ (by walk_at "store") ?_ no_own (by intro env _ _; rfl))
  · have := Fn.lenL (c := c) (n := n) ((srt ns).map .int)
    rw [List.length_map, hl] at this
    walk_at "ev"
    exact this
  refine Ex.cons (Ex1.if_ (b := false) ?_ (by intro h; exact ft_ h) fun _ => Ex.nil ?_)
  · have h := Op2.ieq (c := c) (n := n) (ns.length : Int) 0
    rw [show decide ((ns.length : Int) = 0) = false from decide_eq_false (by exact z416 h1 h2 hl)] at h
    walk_at "ev"
    exact h
  have hget : ∀ i : Nat, i < ns.length → ((srt ns).map D.int)[i]? = some (.int ((srt ns).getD i 0)) := fun i hi => by
    rw [List.getElem?_map, List.getD_eq_getElem?_getD, List.getElem?_eq_getElem (by rw [hl]; exact hi)]; rfl
  refine Ex.cons (Ex1.if_ (b := decide ((ns.length : Int) % 2 = 1)) (by walk_at "ev") (fun hb => ?_) (fun hb => ?_))
  · have hb' : (ns.length : Int) % 2 = 1 := of_decide_eq_true hb
    refine Ex.cons (Ex1.ret (d := .int (midLow ns)) ?_ rfl)
    walk_at "ev"
    refine Got.list _ _ _ ?_ ?_
    · exact z227 hb' h1 h2 hl
    rw [show ((ns.length : Int) / 2).toNat = (ns.length - 1) / 2 from by exact z7 hb' h1 h2 hl]
    exact hget _ (by exact z65 hb' h1 h2 hl)
  · have hb' : ¬ (ns.length : Int) % 2 = 1 := of_decide_eq_false hb
    refine Ex.cons (Ex1.ret (d := .int (midLow ns)) ?_ rfl)
    walk_at "ev"
    refine Got.list _ _ _ ?_ ?_
    · exact z110 h1 h2 hl hb'
    rw [show ((ns.length : Int) / 2 - 1).toNat = (ns.length - 1) / 2 from by exact z6 h1 h2 hl hb']
    exact hget _ (by exact z87 h1 h2 hl)
theorem high_ex (G : Globs c C) (ns : List Int) (h1 : 0 < ns.length) (h2 : ns.length < 64) : Ex c n (namesOf 7) [] none [("data", LI ns)] (bodyOf 7) (fun _ _ => False) (· = .int (midHigh ns)) := by
  have hl : (srt ns).length = ns.length := srt_length ns
  refine Ex.cons (Ex1.assign (d := LI (srt ns)) (by walk_at "ev"; exact Fn.sorted ns h2) (by walk_at "store") ?_ no_own (by intro env _ _; rfl))
  refine Ex.cons (Ex1.assign (d := .int ns.length) ?_ (by walk_at "store") ?_ no_own (by intro env _ _; rfl))
  · have := Fn.lenL (c := c) (n := n) ((srt ns).map .int)
    rw [List.length_map, hl] at this
    walk_at "ev"
    exact this
  refine Ex.cons (Ex1.if_ (b := false) ?_ (by intro h; exact ft_ h) fun _ => Ex.nil ?_)
  · have h := Op2.ieq (c := c) (n := n) (ns.length : Int) 0
    rw [show decide ((ns.length : Int) = 0) = false from decide_eq_false (by exact z416 h1 h2 hl)] at h
    walk_at "ev"
    exact h
  refine Ex.cons (Ex1.ret (d := .int (midHigh ns)) ?_ rfl)
  walk_at "ev"
  refine Got.list _ _ _ ?_ ?_
  · exact z201 h1 h2 hl
  rw [show ((ns.length : Int) / 2).toNat = ns.length / 2 from by exact z38 h1 h2 hl, List.getElem?_map, List.getElem?_eq_getElem (by rw [hl]; exact z167 h1 h2 hl)]
  simp [midHigh, List.getD_eq_getElem?_getD, List.getElem?_eq_getElem (show ns.length / 2 < (srt ns).length by rw [hl]; exact z167 h1 h2 hl)]
/-- an empty list is refused -/
theorem low_exR (G : Globs c C) (hC : ∀ h, c.Wf h → SErr h C) : ExR c n (namesOf 6) [] none [("data", LI [])] (bodyOf 6) C "no median for empty data" := by
  refine ExR.cons (Ex1.assign (d := LI (srt [])) (by walk_at "ev"; exact Fn.sorted [] (by decide)) (by walk_at "store") ?_ no_own (by intro env _ _; rfl))
  refine ExR.cons (Ex1.assign (d := .int 0) (by walk_at "ev"; have := Fn.lenL (c := c) (n := n) ((srt []).map .int); rw [List.length_map, srt_length] at this; exact this) (by walk_at "store") ?_ no_own (by intro env _ _; rfl))
  refine ExR.if_ (by have h := Op2.ieq (c := c) (n := n) 0 0; walk_at "ev"; exact h) ?_
  exact ExR.raise (by walk_at "ev") hC
theorem high_exR (G : Globs c C) (hC : ∀ h, c.Wf h → SErr h C) : ExR c n (namesOf 7) [] none [("data", LI [])] (bodyOf 7) C "no median for empty data" := by
  refine ExR.cons (Ex1.assign (d := LI (srt [])) (by walk_at "ev"; exact Fn.sorted [] (by decide)) (by walk_at "store") ?_ no_own (by intro env _ _; rfl))
  refine ExR.cons (Ex1.assign (d := .int 0) (by walk_at "ev"; have := Fn.lenL (c := c) (n := n) ((srt []).map .int); rw [List.length_map, srt_length] at this; exact this) (by walk_at "store") ?_ no_own (by intro env _ _; rfl))
  refine ExR.if_ (by have h := Op2.ieq (c := c) (n := n) 0 0; walk_at "ev"; exact h) ?_
  exact ExR.raise (by walk_at "ev") hC
end
end
section
open PySem PySem.W PyProof.Rows PySem.Float64
variable [Lo]
section
variable {c : Cfg} {C : Addr} {n : Nat}
end
section
variable {c : Cfg} {C : Addr} {n : Nat}
theorem rng_get {a b : Int} {i : Nat} {d : D} (h : ((rng a b).map D.int)[i]? = some d) : d = .int (a + i) ∧ a + i < b := by
  unfold rng at h
  rw [List.map_map, List.getElem?_map] at h
  cases hr : (List.range (b - a).toNat)[i]? with
  | none => rw [hr] at h; cases h
  | some j =>
    rw [hr] at h
    obtain ⟨hi, rfl⟩ := List.getElem?_eq_some_iff.mp hr
    simp only [List.length_range] at hi
    rw [List.getElem_range] at h
    cases h
    exact ⟨rfl, by exact z262 hi⟩
theorem rng_len (a b : Int) : ((rng a b).map D.int).length = (b - a).toNat := by simp [rng]
/-- item of an ordered list -/
noncomputable def at' (ns : List Int) (i : Int) : Int := ns.getD i.toNat 0
theorem ints_get (ns : List Int) (i : Int) (h0 : 0 ≤ i) (h1 : i < ns.length) : (ns.map D.int)[i.toNat]? = some (.int (at' ns i)) := by
  have hi : i.toNat < ns.length := by exact z155 h0 h1
  unfold at'
  rw [List.getElem?_map, List.getD_eq_getElem?_getD, List.getElem?_eq_getElem hi]; rfl
/-- the exclusive method's place and part -/
noncomputable def exJ (L N i : Int) : Int := if i * (L + 1) / N < 1 then 1 else if i * (L + 1) / N > L - 1 then L - 1 else i * (L + 1) / N
noncomputable def exDelta (L N i : Int) : Int := i * (L + 1) - exJ L N i * N
noncomputable def exNum (ns : List Int) (N i : Int) : Int := at' ns (exJ ns.length N i - 1) * (N - exDelta ns.length N i) + at' ns (exJ ns.length N i) * exDelta ns.length N i
theorem quant_ex (G : Globs c C) (ns : List Int) (N : Int) (ks : Nat → Int) (h1 : 2 ≤ ns.length) (h2 : ns.length < 64) (hN : 1 ≤ N) (hN' : N ≤ 64) (hb : ∀ x ∈ ns, -(2 ^ 20) ≤ x ∧ x ≤ 2 ^ 20)
    (hk : ∀ i : Nat, 1 + (i : Int) < N → 2 * exNum (srt ns) N (1 + i) = ks i * N ∧ (ks i).natAbs < 2 ^ 53) :
    Ex c n (namesOf 8) [] none [("method", .str "exclusive"), ("n", .int N), ("data", LI ns)] (bodyOf 8) (fun _ _ => False) (· = .list ((List.range (N - 1).toNat).map fun i => .flt (ks i))) := by
  have hl : (srt ns).length = ns.length := srt_length ns
  have hL : ((srt ns).length : Int) = ns.length := by rw [hl]
  refine Ex.cons (Ex1.if_ (b := false) ?_ (by intro h; exact ft_ h) fun _ => Ex.nil ?_)
  · have h := Op2.ilt (c := c) (n := n) N 1
    rw [show decide (N < 1) = false from decide_eq_false (by exact z470 hN hN')] at h
    walk_at "ev"
    exact h
  refine Ex.cons (Ex1.assign (d := LI (srt ns)) (by walk_at "ev"; exact Fn.sorted ns h2) (by walk_at "store") ?_ no_own (by intro env _ _; rfl))
  refine Ex.cons (Ex1.assign (d := .int ns.length) ?_ (by walk_at "store") ?_ no_own (by intro env _ _; rfl))
  · have := Fn.lenL (c := c) (n := n) ((srt ns).map .int)
    rw [List.length_map, hl] at this
    walk_at "ev"
    exact this
  refine Ex.cons (Ex1.if_ (b := false) ?_ (by intro h; exact ft_ h) fun _ => Ex.nil ?_)
  · have h := Op2.ilt (c := c) (n := n) (ns.length : Int) 2
    rw [show decide ((ns.length : Int) < 2) = false from decide_eq_false (by exact z362 h1 h2 hl)] at h
    walk_at "ev"
    exact h
  refine Ex.cons (Ex1.if_ (b := false) ?_ (by intro h; exact ft_ h) fun _ => Ex.nil ?_)
  · have h := Op2.seq (c := c) (n := n) "exclusive" "inclusive"
    rw [show decide (("exclusive" : Str) = "inclusive") = false from by decide +kernel] at h
    walk_at "ev"
    exact h
  refine Ex.cons (Ex1.if_ (b := true) ?_ (fun _ => ?_) (by intro h; exact tf_ h))
  · have h := Op2.seq (c := c) (n := n) "exclusive" "exclusive"
    rw [show decide (("exclusive" : Str) = "exclusive") = true from by decide +kernel] at h
    walk_at "ev"
    exact h
  refine Ex.cons (Ex1.assign (d := .int (ns.length + 1)) (by walk_at "ev") (by walk_at "store") ?_ no_own (by intro env _ _; rfl))
  refine Ex.cons (Ex1.assignNew (ds := []) (EvNew.display Evs.nil (by decide)) (by walk_at "store") (by with_unfolding_all rfl) ?_)
  have hbs : ∀ i : Int, -(2 ^ 20) ≤ at' (srt ns) i ∧ at' (srt ns) i ≤ 2 ^ 20 := fun i => by
    unfold at'
    rw [List.getD_eq_getElem?_getD]
    cases hq : (srt ns)[i.toNat]? with
    | none => simp
    | some x => exact hb x ((srt_perm ns).mem_iff.mp (List.mem_of_getElem? hq))
  have hlen : ((rng 1 N).map D.int).length = (N - 1).toNat := rng_len 1 N
  refine Ex.cons (Ex1.for_ (src := (rng 1 N).map .int)
    (fun i o ρ => o = some (("result" : Str), (List.range i).map fun i => D.flt (ks i)) ∧ Sub [("m", .int (ns.length + 1)), ("ld", .int ns.length), ("data", LI (srt ns)), ("n", .int N)] ρ)
    (Src.range2 (by walk_at "ev") (by walk_at "ev") (by walk_at "ev") (by decide) (by constructor <;> (first | exact z423 hN hN' | exact z463 hN hN'))) ⟨_, ⟨rfl, ?_⟩, fun _ _ e => e⟩ (fun i d hd o' ρ' hI => ?_) fun o' ρ' hI => ?_)
  · walk_at "sub"
  · obtain ⟨rfl, hS⟩ := hI
    obtain ⟨rfl, hi⟩ := rng_get hd
    obtain ⟨hk1, hk2⟩ := hk i hi
    refine ⟨[("i", .int (1 + i))], Binds.name _ _ _ (.inl (by with_unfolding_all rfl)) (by decide), (fun y ds e => by cases e; decide +kernel), Ex.sub hS.both ?_⟩
    have no : ∀ {x : Str}, ("result" : Str) ≠ x → noOwn (some (("result" : Str), (List.range i).map fun i => D.flt (ks i))) x := fun h y ds e => by cases e; exact h
    have q0 : 0 ≤ (1 + (i : Int)) * ((ns.length : Int) + 1) := Int.mul_nonneg (by exact z429) (by exact z317 h1 h2 hl)
    refine Ex.cons (Ex1.assign (d := .int ((1 + i) * (ns.length + 1) / N)) (by walk_at "ev") (by walk_at "store") ?_ (no (by decide +kernel)) (by intro env _ _; rfl))
    refine Ex.cons (Ex1.assign (d := .int (exJ ns.length N (1 + i))) ?_ (by walk_at "store") ?_ (no (by decide +kernel)) (by intro env _ _; rfl))
    · refine Ev.ifexp (b := decide ((1 + (i : Int)) * (ns.length + 1) / N < 1)) (by walk_at "ev") (fun h => ?_) (fun h => ?_)
      · rw [show exJ ns.length N (1 + i) = 1 from if_pos (of_decide_eq_true h)]; walk_at "ev"
      · refine Ev.ifexp (b := decide ((ns.length : Int) - 1 < (1 + (i : Int)) * (ns.length + 1) / N)) (by walk_at "ev") (fun h' => ?_) (fun h' => ?_)
        · rw [show exJ ns.length N (1 + i) = ns.length - 1 from (if_neg (of_decide_eq_false h)).trans (if_pos (of_decide_eq_true h'))]; walk_at "ev"
        · rw [show exJ ns.length N (1 + i) = (1 + i) * (ns.length + 1) / N from (if_neg (of_decide_eq_false h)).trans (if_neg (of_decide_eq_false h'))]; walk_at "ev"
    have hJ : 1 ≤ exJ ns.length N (1 + i) ∧ exJ ns.length N (1 + i) ≤ ns.length - 1 := by
      unfold exJ
      split
      · exact z278 h1 h2 hl
      · split <;> (first | exact z116 hl ‹_› ‹_› | exact z265 h1 h2 hl)
    refine Ex.cons (Ex1.assign (d := .int (exDelta ns.length N (1 + i))) ?_ (by walk_at "store") ?_ (no (by decide +kernel)) (by intro env _ _; rfl))
    · unfold exDelta; walk_at "ev"
    have hJl : exJ ns.length N (1 + i) < (srt ns).length := by rw [hL]; exact z242 hJ hl
    refine Ex.cons (Ex1.assign (d := .flt (ks i)) ?_ (by walk_at "store") ?_ (no (by decide +kernel)) (by intro env _ _; rfl))
    · have e1 : exNum (srt ns) N (1 + i) = at' (srt ns) (exJ ns.length N (1 + i) - 1) * (N - exDelta ns.length N (1 + i)) + at' (srt ns) (exJ ns.length N (1 + i)) * exDelta ns.length N (1 + i) := by unfold exNum; rw [hl]
      have b1 := hbs (exJ ns.length N (1 + i) - 1)
      have b2 := hbs (exJ ns.length N (1 + i))
      have g1 := ints_get (srt ns) (exJ ns.length N (1 + i) - 1) (by exact z325 hJ) (by exact z255 hJ hl)
      have g2 := ints_get (srt ns) (exJ ns.length N (1 + i)) (by exact z326 hJ) (by omega)
      refine Ev.bin (d₁ := .int (exNum (srt ns) N (1 + i))) (d₂ := .int N) ?_ (by walk_at "ev") (Op2.itrue _ _ (ks i) (by exact z476 hN hN') hk1 hk2)
      rw [e1]
      refine Ev.bin (Ev.bin (Ev.item (by walk_at "ev") (by walk_at "ev") (Got.list _ _ _ (by exact z325 hJ) g1)) (by walk_at "ev") (Op2.imul _ _ (.inl (by exact z46 b1)))) (Ev.bin (Ev.item (by walk_at "ev") (by walk_at "ev") (Got.list _ _ _ (by exact z326 hJ) g2)) (by walk_at "ev") (Op2.imul _ _ (.inl (by exact z46 b2)))) (Op2.iadd _ _)
    refine Ex.cons (Ex1.append (d := .flt (ks i)) (by walk_at "ev") ?_ (Ex.nil ⟨?_, by walk_at "sub"⟩))
    · simp [lim]; exact z279 hi hN hN'
    · rw [List.range_succ, List.map_append]; rfl
  · obtain ⟨rfl, hS⟩ := hI
    rw [hlen]
    refine Ex.release (Ex.cons (Ex1.ret (d := .list ((List.range (N - 1).toNat).map fun i => .flt (ks i))) ?_ rfl))
    refine Ev.name ?_ (by decide +kernel)
    with_unfolding_all rfl
end
end
section
open PySem PySem.W PyProof.Rows PySem.Float64
variable [Lo]
section
variable {c : Cfg} {C : Addr} {n : Nat}
/-- the inclusive method's numerator -/
noncomputable def inNum (ns : List Int) (N i : Int) : Int := at' ns (i * (ns.length - 1) / N) * (N - i * (ns.length - 1) % N) + at' ns (i * (ns.length - 1) / N + 1) * (i * (ns.length - 1) % N)
theorem quantIn_ex (G : Globs c C) (ns : List Int) (N : Int) (ks : Nat → Int) (h1 : 2 ≤ ns.length) (h2 : ns.length < 64) (hN : 1 ≤ N) (hN' : N ≤ 64) (hb : ∀ x ∈ ns, -(2 ^ 20) ≤ x ∧ x ≤ 2 ^ 20)
    (hk : ∀ i : Nat, 1 + (i : Int) < N → 2 * inNum (srt ns) N (1 + i) = ks i * N ∧ (ks i).natAbs < 2 ^ 53) :
    Ex c n (namesOf 8) [] none [("method", .str "inclusive"), ("n", .int N), ("data", LI ns)] (bodyOf 8) (fun _ _ => False) (· = .list ((List.range (N - 1).toNat).map fun i => .flt (ks i))) := by
  have hl : (srt ns).length = ns.length := srt_length ns
  have hL : ((srt ns).length : Int) = ns.length := by rw [hl]
  refine Ex.cons (Ex1.if_ (b := false) ?_ (by intro h; exact ft_ h) fun _ => Ex.nil ?_)
  · have h := Op2.ilt (c := c) (n := n) N 1
    rw [show decide (N < 1) = false from decide_eq_false (by exact z470 hN hN')] at h
    walk_at "ev"
    exact h
  refine Ex.cons (Ex1.assign (d := LI (srt ns)) (by walk_at "ev"; exact Fn.sorted ns h2) (by walk_at "store") ?_ no_own (by intro env _ _; rfl))
  refine Ex.cons (Ex1.assign (d := .int ns.length) ?_ (by walk_at "store") ?_ no_own (by intro env _ _; rfl))
  · have := Fn.lenL (c := c) (n := n) ((srt ns).map .int)
    rw [List.length_map, hl] at this
    walk_at "ev"
    exact this
  refine Ex.cons (Ex1.if_ (b := false) ?_ (by intro h; exact ft_ h) fun _ => Ex.nil ?_)
  · have h := Op2.ilt (c := c) (n := n) (ns.length : Int) 2
    rw [show decide ((ns.length : Int) < 2) = false from decide_eq_false (by exact z362 h1 h2 hl)] at h
    walk_at "ev"
    exact h
  refine Ex.cons (Ex1.if_ (b := true) ?_ (fun _ => ?_) (by intro h; exact tf_ h))
  · have h := Op2.seq (c := c) (n := n) "inclusive" "inclusive"
    rw [show decide (("inclusive" : Str) = "inclusive") = true from by decide +kernel] at h
    walk_at "ev"
    exact h
  refine Ex.cons (Ex1.assign (d := .int (ns.length - 1)) (by walk_at "ev") (by walk_at "store") ?_ no_own (by intro env _ _; rfl))
  refine Ex.cons (Ex1.assignNew (ds := []) (EvNew.display Evs.nil (by decide)) (by walk_at "store") (by with_unfolding_all rfl) ?_)
  have hbs : ∀ i : Int, -(2 ^ 20) ≤ at' (srt ns) i ∧ at' (srt ns) i ≤ 2 ^ 20 := fun i => by
    unfold at'
    rw [List.getD_eq_getElem?_getD]
    cases hq : (srt ns)[i.toNat]? with
    | none => simp
    | some x => exact hb x ((srt_perm ns).mem_iff.mp (List.mem_of_getElem? hq))
  have hlen : ((rng 1 N).map D.int).length = (N - 1).toNat := rng_len 1 N
  refine Ex.cons (Ex1.for_ (src := (rng 1 N).map .int)
    (fun i o ρ => o = some (("result" : Str), (List.range i).map fun i => D.flt (ks i)) ∧ Sub [("m", .int (ns.length - 1)), ("data", LI (srt ns)), ("n", .int N)] ρ)
    (Src.range2 (by walk_at "ev") (by walk_at "ev") (by walk_at "ev") (by decide) (by constructor <;> (first | exact z423 hN hN' | exact z463 hN hN'))) ⟨_, ⟨rfl, ?_⟩, fun _ _ e => e⟩ (fun i d hd o' ρ' hI => ?_) fun o' ρ' hI => ?_)
  · walk_at "sub"
  · obtain ⟨rfl, hS⟩ := hI
    obtain ⟨rfl, hi⟩ := rng_get hd
    obtain ⟨hk1, hk2⟩ := hk i hi
    refine ⟨[("i", .int (1 + i))], Binds.name _ _ _ (.inl (by with_unfolding_all rfl)) (by decide), (fun y ds e => by cases e; decide +kernel), Ex.sub hS.both ?_⟩
    have no : ∀ {x : Str}, ("result" : Str) ≠ x → noOwn (some (("result" : Str), (List.range i).map fun i => D.flt (ks i))) x := fun h y ds e => by cases e; exact h
    have q0 : 0 ≤ (1 + (i : Int)) * ((ns.length : Int) - 1) := Int.mul_nonneg (by exact z429) (by exact z310 h1 h2 hl)
    have q1 : (1 + (i : Int)) * ((ns.length : Int) - 1) / N < ns.length - 1 := by
      rw [Int.ediv_lt_iff_lt_mul (by exact z448 hN hN')]
      rw [Int.mul_comm]
      exact Int.mul_lt_mul_of_pos_left hi (by exact z319 h1 h2 hl)
    have q2 : 0 ≤ (1 + (i : Int)) * ((ns.length : Int) - 1) / N := Int.ediv_nonneg q0 (by exact z432 hN hN')
    refine Ex.cons (Ex1.assign2 (d₁ := .int ((1 + i) * (ns.length - 1) / N)) (d₂ := .int ((1 + i) * (ns.length - 1) % N)) (by walk_at "ev"; exact Fn.divmod _ _ (by exact z448 hN hN') (by exact z439 hN hN')) (by walk_at "store") (by walk_at "store") ?_ (no (by decide +kernel)) (no (by decide +kernel)) (by rfl) (by intro env _ _; rfl))
    refine Ex.cons (Ex1.assign (d := .flt (ks i)) ?_ (by walk_at "store") ?_ (no (by decide +kernel)) (by intro env _ _; rfl))
    · have e1 : inNum (srt ns) N (1 + i) = at' (srt ns) ((1 + i) * (ns.length - 1) / N) * (N - (1 + i) * (ns.length - 1) % N) + at' (srt ns) ((1 + i) * (ns.length - 1) / N + 1) * ((1 + i) * (ns.length - 1) % N) := by unfold inNum; rw [hl]
      have b1 := hbs ((1 + i) * (ns.length - 1) / N)
      have b2 := hbs ((1 + i) * (ns.length - 1) / N + 1)
      have g1 := ints_get (srt ns) ((1 + i) * (ns.length - 1) / N) (by omega) (by exact z245 q1 hl)
      have g2 := ints_get (srt ns) ((1 + i) * (ns.length - 1) / N + 1) (by exact z318 q2) (by exact z243 q1 hl)
      refine Ev.bin (d₁ := .int (inNum (srt ns) N (1 + i))) (d₂ := .int N) ?_ (by walk_at "ev") (Op2.itrue _ _ (ks i) (by exact z476 hN hN') hk1 hk2)
      rw [e1]
      refine Ev.bin (Ev.bin (Ev.item (by walk_at "ev") (by walk_at "ev") (Got.list _ _ _ (by omega) g1)) (by walk_at "ev") (Op2.imul _ _ (.inl (by exact z46 b1)))) (Ev.bin (Ev.item (by walk_at "ev") (by walk_at "ev") (Got.list _ _ _ (by exact z318 q2) g2)) (by walk_at "ev") (Op2.imul _ _ (.inl (by exact z46 b2)))) (Op2.iadd _ _)
    refine Ex.cons (Ex1.append (d := .flt (ks i)) (by walk_at "ev") ?_ (Ex.nil ⟨?_, by walk_at "sub"⟩))
    · simp [lim]; exact z279 hi hN hN'
    · rw [List.range_succ, List.map_append]; rfl
  · obtain ⟨rfl, hS⟩ := hI
    rw [hlen]
    refine Ex.release (Ex.cons (Ex1.ret (d := .list ((List.range (N - 1).toNat).map fun i => .flt (ks i))) ?_ rfl))
    refine Ev.name ?_ (by decide +kernel)
    with_unfolding_all rfl
theorem quant_exR0 (G : Globs c C) (hC : ∀ h, c.Wf h → SErr h C) (ns : List Int) (N : Int) (hN : N < 1) (m : Str) : ExR c n (namesOf 8) [] none [("method", .str m), ("n", .int N), ("data", LI ns)] (bodyOf 8) C "n must be at least 1" := by
  refine ExR.if_ ?_ ?_
  · have h := Op2.ilt (c := c) (n := n) N 1
    rw [show decide (N < 1) = true from decide_eq_true hN] at h
    walk_at "ev"
    exact h
  exact ExR.raise (by walk_at "ev") hC
theorem quant_exR1 (G : Globs c C) (hC : ∀ h, c.Wf h → SErr h C) (N : Int) (hN : 1 ≤ N) (m : Str) : ExR c n (namesOf 8) [] none [("method", .str m), ("n", .int N), ("data", LI [])] (bodyOf 8) C "must have at least one data point" := by
  refine ExR.cons (Ex1.if_ (b := false) ?_ (by intro h; exact ft_ h) fun _ => Ex.nil ?_)
  · have h := Op2.ilt (c := c) (n := n) N 1
    rw [show decide (N < 1) = false from decide_eq_false (by exact z536 hN)] at h
    walk_at "ev"
    exact h
  refine ExR.cons (Ex1.assign (d := LI (srt [])) (by walk_at "ev"; exact Fn.sorted [] (by decide)) (by walk_at "store") ?_ no_own (by intro env _ _; rfl))
  refine ExR.cons (Ex1.assign (d := .int 0) (by walk_at "ev"; have := Fn.lenL (c := c) (n := n) ((srt []).map .int); rw [List.length_map, srt_length] at this; exact this) (by walk_at "store") ?_ no_own (by intro env _ _; rfl))
  refine ExR.if_ (by have h := Op2.ilt (c := c) (n := n) 0 2; walk_at "ev"; exact h) ?_
  refine ExR.cons (Ex1.if_ (b := false) (by have h := Op2.ieq (c := c) (n := n) 0 1; walk_at "ev"; exact h) (by intro h; exact ft_ h) fun _ => Ex.nil ?_)
  exact ExR.raise (by walk_at "ev") hC
end
end
section
open PySem PySem.W PyProof.Rows PySem.Float64
variable [Lo]
section
variable {c : Cfg} {C : Addr} {n : Nat} {names : Names} {o : Own} {ρ : Vars} {cl : List Str} {cc : Addr} {N : Own → Vars → Prop} {R : D → Prop}
/-- an expression that needs to know its frame's code -/
noncomputable def EvC (c : Cfg) (n : Nat) (names : Names) (cc : Addr) (ρ : Vars) (e : Expr) (d : D) : Prop :=
  ∀ (A : Around) (env : Env) (X : List Addr) (s : Shared) (E : Value → Shared → Prop), OkA c n A → env.scope.names = names → env.code = .ref cc → c.Wf s.heap → EnvOK none X s.heap env ρ → wpAny (model c.prog c.w) A (eval e env) (Good X d s) E s
/-- a body whose frame's code is known, up to its return -/
noncomputable def ExC (c : Cfg) (n : Nat) (names : Names) (cl : List Str) (cc : Addr) (o : Own) (ρ : Vars) (st : List Stmt) (R : D → Prop) : Prop :=
  ∀ (A : Around) (env : Env) (X X₀ : List Addr) (s₀ s : Shared) (E : Value → Shared → Prop), OkA c n A → env.scope.names = names → env.code = .ref cc → WfAt c cl s₀ env → EnvOK o X s.heap env ρ → Base cl s₀ env s → XOK o X X₀ s₀ →
    wpAny (model c.prog c.w) A (execs st env) (fun f s' => match f with | .ret v => ∃ d, R d ∧ Rep s'.heap X₀ v d ∧ Kp s₀ s' | _ => False) E s
theorem ExC.of {st : List Stmt} (h : Ex c n names cl o ρ st (fun _ _ => False) R) : ExC c n names cl cc o ρ st R := fun A env X X₀ s₀ s E hA hn _ hW W B x => then_ (h A env X X₀ s₀ s E hA hn hW W B x) fun f s' a => by
  cases f with
  | next => obtain ⟨_, _, _, h, _⟩ := a; exact h.elim
  | ret v => exact a
  | brk => exact a.elim
  | cont => exact a.elim
theorem ExC.cons {st : Stmt} {rest : List Stmt} (h : Ex1 c n names cl o ρ st (fun o' ρ' => ExC c n names cl cc o' ρ' rest R) R) : ExC c n names cl cc o ρ (st :: rest) R := fun A env X X₀ s₀ s E hA hn hc hW W B x =>
  wpAny_execs_cons (then_ (h A env X X₀ s₀ s E hA hn hW W B x) fun f s' a => by
    cases f with
    | next => obtain ⟨o', ρ', X', hN, nx⟩ := a; exact hN A env X' X₀ s₀ s' E hA hn hc hW nx.ok nx.base nx.xok
    | ret v => exact a
    | brk => exact a.elim
    | cont => exact a.elim)
theorem ExC.assign {x : Str} {px pos : Pos} {e : Expr} {d : D} {rest : List Stmt} (h : EvC c n names cc ρ e d) (hx : storable names cl x) (hr : ExC c n names cl cc none ((x, d) :: ρ) rest R) (hs : ∀ env : Env, env.scope.names = names → env.scope.kind = .function → swapsWith e (some (.Name x px)) pos.line env = pure false) :
    ExC c n names cl cc none ρ (.Assign [.Name x px] e pos :: rest) R := fun A env X X₀ s₀ s E hA hn hc hW W B xo => by
  refine wpAny_execs_cons (wpAny_Assign_Name (then_ (h A env X s E hA hn hc (hW _ _ _ _ W B) W) fun v s₁ g => ?_) (hs env hn W.kind))
  obtain ⟨r, k⟩ := g
  have nx := Nx.kp W B xo k
  refine wpAny_store nx.ok (stores_of hn nx.ok hx) (by intro _ _ e; exact ns_ e) r fun h' tk b W' t => ?_
  exact hr A env X X₀ s₀ _ E hA hn hc hW W' (nx.base.turn hx.2 t) xo
/-- a def whose body needs its code's table -/
theorem Fn.defC {a : Addr} {fd : FuncData} {body : List Stmt} (F : IsDef c a fd) (hbody : fd.body = .stmts body) (hcc : fd.code = .ref cc) {ps : List Str} {ds bds : List D} {ks : List (Str × D)} {d : D}
    (hps : ∀ x ∈ ps, fd.scope.names.lookup x = some .local ∨ fd.scope.names.lookup x = some .cell)
    (hbind : ∀ (s : Shared) (X : List Addr) (vs kvs : List Value), c.Wf s.heap → Reps s.heap X vs ds → Reps s.heap X kvs (ks.map (·.2)) → ∃ bvs, BindsTo s fd ⟨vs, (ks.map (·.1)).zip kvs⟩ (ps.zip bvs) ∧ Reps s.heap X bvs bds ∧ ps.length = bvs.length)
    (hex : ExC c n fd.scope.names [] cc none (ps.zip bds).reverse body (· = d)) : Fn c (n + 1) (.ref a) ds ks d :=
  ⟨fun h hW => by obtain ⟨o, ho, hd, _⟩ := F.at' h hW; exact .func ho hd, fun A X s E vs kvs hA hW hX r rk => by
    obtain ⟨bvs, hb, rb, hl⟩ := hbind s X vs kvs hW r rk
    refine F.run (args := ⟨vs, (ks.map (·.1)).zip kvs⟩) hbody hps hl hA hW hX hb rb fun env s' e1 W B hA' e4 => ?_
    refine then_ (hex (A.deeper env) env X X s s' _ hA' (by rw [e1]) (by rw [e4]; exact hcc) (.of hW) W B rfl) fun f s'' a => ?_
    cases f with
    | next => exact a.elim
    | ret v => obtain ⟨d', rfl, r, k⟩ := a; exact ⟨r, k⟩
    | brk => exact a.elim
    | cont => exact a.elim⟩
/-- covariance of two lists of numbers, doubled values told -/
theorem cov_ex (G : Globs c C) (hB : ∀ h, c.Wf h → BMain h ∧ h.NoLimit ∧ CodeTab h cc) (xs ys : List D) (js : List Int) (mx my k : Int) (hx : ∀ d ∈ xs, isNum d = true ∧ (dbl d).natAbs ≤ 2 ^ 40) (hy : ∀ d ∈ ys, isNum d = true ∧ (dbl d).natAbs ≤ 2 ^ 40)
    (h2 : 2 ≤ xs.length) (hlx : xs.length ≤ lim) (hl : ys.length = xs.length) (hj : js.length = xs.length) (ex : (xs.map dbl).sum = mx * xs.length) (ey : (ys.map dbl).sum = my * xs.length) (bx : mx.natAbs ≤ 2 ^ 41) (byy : my.natAbs ≤ 2 ^ 41)
    (hjb : ∀ j ∈ js, j.natAbs ≤ 2 ^ 40) (hjs : ∀ (i : Nat) (d e : D) (j : Int), xs[i]? = some d → ys[i]? = some e → js[i]? = some j → (dbl d - mx) * (dbl e - my) = 2 * j) (ek : js.sum = k * (xs.length - 1)) (bk : k.natAbs < 2 ^ 53) :
    ExC c (n + 1) (namesOf 9) [] cc none [("y", .list ys), ("x", .list xs)] (bodyOf 9) (· = .flt k) := by
  have hll : xs.length ≤ 4096 := hlx
  have hly : ((ys.length : Nat) : Int) = xs.length := by rw [hl]
  refine ExC.cons (Ex1.assign (d := .int xs.length) (by walk_at "ev") (by walk_at "store") ?_ no_own (by intro env _ _; rfl))
  refine ExC.cons (Ex1.if_ (b := false) ?_ (by intro h; exact ft_ h) fun _ => Ex.nil ?_)
  · have h := Op2.ine (c := c) (n := n + 1) (ys.length : Int) xs.length
    rw [show decide ((ys.length : Int) = xs.length) = true from decide_eq_true hly] at h
    walk_at "ev"
    exact h
  refine ExC.cons (Ex1.if_ (b := false) ?_ (by intro h; exact ft_ h) fun _ => Ex.nil ?_)
  · have h := Op2.ilt (c := c) (n := n + 1) (xs.length : Int) 2
    rw [show decide ((xs.length : Int) < 2) = false from decide_eq_false (by exact z214 h2 hl hj hll)] at h
    walk_at "ev"
    exact h
  refine ExC.cons (Ex1.assign (d := .flt mx) ?_ (by walk_at "store") ?_ no_own (by intro env _ _; rfl))
  · refine Ev.bin (d₁ := .flt (xs.map dbl).sum) (d₂ := .int xs.length) ?_ (by walk_at "ev") (Op2.ftrue _ _ mx (by exact z246 h2 hl hj hll) ex (by exact z367 bx) (by exact z70 h2 hl hj hll))
    walk_at "ev"
    exact Fn.fsum xs (fun d h => (hx d h).1) (fun d h => (hx d h).2)
  refine ExC.cons (Ex1.assign (d := .flt my) ?_ (by walk_at "store") ?_ no_own (by intro env _ _; rfl))
  · refine Ev.bin (d₁ := .flt (ys.map dbl).sum) (d₂ := .int xs.length) ?_ (by walk_at "ev") (Op2.ftrue _ _ my (by exact z246 h2 hl hj hll) ey (by exact z367 byy) (by exact z70 h2 hl hj hll))
    walk_at "ev"
    exact Fn.fsum ys (fun d h => (hy d h).1) (fun d h => (hy d h).2)
  refine ExC.assign (d := .flt js.sum) ?_ (by walk_at "store") ?_ (by intro env _ _; rfl)
  · intro A env X s E hA hn hc hW W
    obtain ⟨b1, b2, b3⟩ := hB _ hW
    have hp : 0 < js.length := by exact z247 h2 hl hj hll
    have hq : js.length ≤ lim := by exact z291 hl hj hlx
    refine sumprod_run (n := n) (ds := xs) (es := ys) (m := mx) (m' := my) (js := js) (names := namesOf 9) (cc := cc) hA hn hW b1 b2 hc b3 W ?_ ?_ ?_ hj.symm (hl.trans hj.symm) hp hjb hq hjs
    · exact Ev.glob (by with_unfolding_all rfl) (G.all _ _ (by with_unfolding_all rfl)) (by decide +kernel)
    · refine ⟨by decide +kernel, by with_unfolding_all rfl, by decide +kernel, by decide +kernel, by decide +kernel, by decide +kernel, by with_unfolding_all rfl, by with_unfolding_all rfl, fun d h => (hx d h).1, fun d h => Nat.lt_of_le_of_lt (hx d h).2 (by decide), fun d h => ?_, by decide +kernel, by decide +kernel, by decide +kernel⟩
      have := (hx d h).2; exact z5 this bx
    · refine ⟨by decide +kernel, by with_unfolding_all rfl, by decide +kernel, by decide +kernel, by decide +kernel, by decide +kernel, by with_unfolding_all rfl, by with_unfolding_all rfl, fun d h => (hy d h).1, fun d h => Nat.lt_of_le_of_lt (hy d h).2 (by decide), fun d h => ?_, by decide +kernel, by decide +kernel, by decide +kernel⟩
      have := (hy d h).2; exact z5 this byy
  refine ExC.of (Ex.cons (Ex1.ret (d := .flt k) ?_ rfl))
  exact Ev.bin (d₁ := .flt js.sum) (d₂ := .int (xs.length - 1)) (by walk_at "ev") (by walk_at "ev") (Op2.ftrue _ _ k (by exact z225 h2 hl hj hll) ek bk (by exact z64 h2 hl hj hll))
theorem cov_exR1 (G : Globs c C) (hC : ∀ h, c.Wf h → SErr h C) (xs ys : List D) (h : ys.length ≠ xs.length) : ExR c n (namesOf 9) [] none [("y", .list ys), ("x", .list xs)] (bodyOf 9) C "covariance requires that both inputs have same number of data points" := by
  refine ExR.cons (Ex1.assign (d := .int xs.length) (by walk_at "ev") (by walk_at "store") ?_ no_own (by intro env _ _; rfl))
  refine ExR.if_ ?_ ?_
  · have h := Op2.ine (c := c) (n := n) (ys.length : Int) xs.length
    rw [show decide ((ys.length : Int) = xs.length) = false from decide_eq_false (by exact z434 ‹_›)] at h
    walk_at "ev"
    exact h
  exact ExR.raise (by walk_at "ev") hC
theorem cov_exR2 (G : Globs c C) (hC : ∀ h, c.Wf h → SErr h C) (xs ys : List D) (h : ys.length = xs.length) (h2 : xs.length < 2) : ExR c n (namesOf 9) [] none [("y", .list ys), ("x", .list xs)] (bodyOf 9) C "covariance requires at least two data points" := by
  refine ExR.cons (Ex1.assign (d := .int xs.length) (by walk_at "ev") (by walk_at "store") ?_ no_own (by intro env _ _; rfl))
  refine ExR.cons (Ex1.if_ (b := false) ?_ (by intro h; exact ft_ h) fun _ => Ex.nil ?_)
  · have h := Op2.ine (c := c) (n := n) (ys.length : Int) xs.length
    rw [show decide ((ys.length : Int) = xs.length) = true from decide_eq_true (by exact z433 ‹_›)] at h
    walk_at "ev"
    exact h
  refine ExR.if_ ?_ ?_
  · have h := Op2.ilt (c := c) (n := n) (xs.length : Int) 2
    rw [show decide ((xs.length : Int) < 2) = true from decide_eq_true (by exact z430 h2 ‹_›)] at h
    walk_at "ev"
    exact h
  exact ExR.raise (by walk_at "ev") hC
end
end
section
open PySem PySem.W PyProof.Rows PySem.Float64
variable [Lo]
section
variable {c : Cfg} {C : Addr} {n : Nat} {names : Names} {ρ : Vars}
theorem gather_map (f : D → D) (ds : List D) : gather (fun _ => true) (fun d => [f d]) ds = ds.map f := by
  induction ds with
  | nil => rfl
  | cons d r ih =>
    have : gather (fun _ => true) (fun d => [f d]) (d :: r) = [f d] ++ gather (fun _ => true) (fun d => [f d]) r := rfl
    rw [this, ih]; rfl
theorem gather_filter (keep : D → Bool) (f : D → D) (ds : List D) : gather keep (fun d => [f d]) ds = (ds.filter keep).map f := by
  induction ds with
  | nil => rfl
  | cons d r ih =>
    have : gather keep (fun d => [f d]) (d :: r) = (if keep d then [f d] else []) ++ gather keep (fun d => [f d]) r := rfl
    rw [this, ih, List.filter_cons]
    cases keep d <;> rfl
/-- [elt for target in iter] -/
theorem Ev.comp1 {elt target iter : Expr} {scope : Scope} {pos : Pos} {src : List D} (f : D → D) (hs : compOK names scope = true) (hsrc : Src c n names none ρ target iter src) (hbn : ∀ x ∈ binder target, scope.names.lookup x ≠ some .free) (hlen : src.length ≤ lim)
    (turn : ∀ d ∈ src, ∃ bs, Binds (relabelN names scope.names) (frees scope.names) target d bs ∧ Ev c n (relabelN names scope.names) none (bs ++ capt ρ scope.names) elt (f d)) :
    Ev c n names none ρ (.ListComp elt [⟨target, iter, [], 0⟩] scope pos) (.list (src.map f)) := by
  rw [← gather_map f src]
  refine Ev.comp hs (by intro _ _ _ _ h; cases h) hsrc hbn (by rw [gather_map]; simpa using hlen) fun d hd => ?_
  obtain ⟨bs, h1, h2⟩ := turn d hd
  exact ⟨bs, h1, .nil, fun _ => Em.elt rfl h2⟩
/-- [elt for target in iter if test] -/
theorem Ev.comp1f {elt target iter test : Expr} {scope : Scope} {pos : Pos} {src : List D} (keep : D → Bool) (f : D → D) (hs : compOK names scope = true) (hsrc : Src c n names none ρ target iter src) (hbn : ∀ x ∈ binder target, scope.names.lookup x ≠ some .free) (hlen : src.length ≤ lim)
    (turn : ∀ d ∈ src, ∃ bs, Binds (relabelN names scope.names) (frees scope.names) target d bs ∧ Tr c n (relabelN names scope.names) none (bs ++ capt ρ scope.names) test (keep d) ∧ (keep d = true → Ev c n (relabelN names scope.names) none (bs ++ capt ρ scope.names) elt (f d))) :
    Ev c n names none ρ (.ListComp elt [⟨target, iter, [test], 0⟩] scope pos) (.list ((src.filter keep).map f)) := by
  rw [← gather_filter keep f src]
  refine Ev.comp hs (by intro _ _ _ _ h; cases h) hsrc hbn (by rw [gather_filter, List.length_map]; exact Nat.le_trans (List.length_filter_le ..) hlen) fun d hd => ?_
  obtain ⟨bs, h1, h2, h3⟩ := turn d hd
  exact ⟨bs, h1, .one h2, fun h => Em.elt rfl (h3 h)⟩
/-- pairs of ints -/
theorem zip_ints (xs ys : List Int) : List.zipWith (fun a b => D.tup [a, b]) (xs.map D.int) (ys.map D.int) = (xs.zip ys).map fun p => D.tup [.int p.1, .int p.2] := by
  induction xs generalizing ys with
  | nil => rfl
  | cons x r ih =>
    cases ys with
    | nil => rfl
    | cons y q => simp only [List.map_cons, List.zipWith_cons_cons, List.zip_cons_cons, ih]
noncomputable def dot (xs ys : List Int) : Int := ((xs.zip ys).map fun p => p.1 * p.2).sum
noncomputable def bound (xs ys : List Int) : Int := xs.length * (xs.length * dot xs ys - xs.sum * ys.sum)
theorem sum_bound (ns : List Int) (B : Int) (h : ∀ x ∈ ns, -B ≤ x ∧ x ≤ B) : -(ns.length * B) ≤ ns.sum ∧ ns.sum ≤ ns.length * B := by
  have := sum_take_bound ns B h ns.length (Nat.le_refl _)
  rwa [List.take_length] at this
theorem bound_ex (G : Globs c C) (xs ys : List Int) (hx : ∀ x ∈ xs, 0 ≤ x ∧ x ≤ 1000) (hy : ∀ x ∈ ys, 0 ≤ x ∧ x ≤ 1000) (hlx : xs.length ≤ 100) (hly : ys.length ≤ 100) :
    Ex c n (namesOf 16) [] none [("right", LI ys), ("left", LI xs)] (bodyOf 16) (fun _ _ => False) (· = .int (bound xs ys)) := by
  have hl := Fn.lenL (c := c) (n := n) (xs.map .int)
  rw [List.length_map] at hl
  have sx := sum_bound xs 1000 fun x h => ⟨by have := hx x h; exact z445 this, (hx x h).2⟩
  have sy := sum_bound ys 1000 fun x h => ⟨by have := hy x h; exact z445 this, (hy x h).2⟩
  have hz : ∀ z ∈ (xs.zip ys).map (fun p : Int × Int => p.1 * p.2), 0 ≤ z ∧ z ≤ 1000000 := fun z hz => by
    obtain ⟨p, hp, rfl⟩ := List.mem_map.mp hz
    have h1 := hx _ (List.of_mem_zip hp).1
    have h2 := hy _ (List.of_mem_zip hp).2
    exact ⟨Int.mul_nonneg h1.1 h2.1, by have := Int.mul_le_mul h1.2 h2.2 h2.1 (by decide); simpa using this⟩
  have hzl : ((xs.zip ys).map (fun p : Int × Int => p.1 * p.2)).length ≤ 100 := by simp; exact z282 hlx hly
  have sz := sum_bound _ 1000000 (fun x h => ⟨by have := hz x h; exact z379 this, (hz x h).2⟩)
  refine Ex.cons (Ex1.assign (d := .int xs.length) (by walk_at "ev"; exact hl) (by walk_at "store") ?_ no_own (by intro env _ _; rfl))
  refine Ex.cons (Ex1.ret (d := .int (bound xs ys)) ?_ rfl)
  have e : LI ((xs.zip ys).map fun p => p.1 * p.2) = .list ((List.zipWith (fun a b => D.tup [a, b]) (xs.map D.int) (ys.map D.int)).map fun d => match d with | .tup [.int a, .int b] => .int (a * b) | d => d) := by
    rw [zip_ints, List.map_map]; simp [LI]
  refine Ev.bin (d₁ := .int xs.length) (d₂ := .int (xs.length * dot xs ys - xs.sum * ys.sum)) (by walk_at "ev") (Ev.bin (d₁ := .int (xs.length * dot xs ys)) (d₂ := .int (xs.sum * ys.sum)) (Ev.bin (d₁ := .int xs.length) (d₂ := .int (dot xs ys)) (by walk_at "ev")
    (Ev.call (f := .builtin "sum") (ds := [LI ((xs.zip ys).map fun p => p.1 * p.2)]) (ks := []) (by walk_at "ev") (Evs.cons ?_ Evs.nil) Kws.nil (Fn.sum _ fun z h => ?_)) (Op2.imul _ _ (.inl (by exact z289 hlx)))) (Ev.bin (d₁ := .int xs.sum) (d₂ := .int ys.sum) ?_ ?_ (Op2.imul _ _ (.inl (by exact z160 sx hlx)))) (Op2.isub _ _)) (Op2.imul _ _ (.inl (by exact z289 hlx)))
  · rw [e]
    exact Ev.comp1 _ (by decide +kernel) (Src.zip rfl (by walk_at "ev") (by walk_at "ev") (by walk_at "ev")) (by decide +kernel) (by rw [zip_ints]; simp [lim]; exact z226 hlx hly) fun d hd => by
      rw [zip_ints] at hd
      obtain ⟨⟨a, b⟩, hp, rfl⟩ := List.mem_map.mp hd
      have h1 := hx _ (List.of_mem_zip hp).1
      exact ⟨_, Binds.pair _ _ _ _ _ _ _ _ (.inl (by with_unfolding_all rfl)) (by decide +kernel) (.inl (by with_unfolding_all rfl)) (by decide +kernel), by walk_at "ev"⟩
  · have := hz z h; constructor <;> (first | exact z333 this | exact z390 this)
  · walk_at "ev"
    exact Fn.sum xs fun x h => by have := hx x h; constructor <;> (first | exact z339 this | exact z402 this)
  · walk_at "ev"
    exact Fn.sum ys fun x h => by have := hy x h; constructor <;> (first | exact z339 this | exact z402 this)
end
end
section
open PySem PySem.W PyProof.Rows PySem.Float64
variable [Lo]
set_option maxRecDepth 100000
/-- a text, by its letters -/
noncomputable def S (l : List Nat) : Str := ⟨l.toArray⟩
theorem S_len (l : List Nat) : (S l).length = l.length := by simp [S, Str.length]
theorem S_list (l : List Nat) : (S l).cps.toList = l := by simp [S]
theorem S_eta (x : Str) : S x.cps.toList = x := by cases x; simp [S]
theorem S_inj {a b : List Nat} (h : S a = S b) : a = b := by have := congrArg (fun x => x.cps.toList) h; simpa [S_list] using this
theorem S_app (a b : List Nat) : S a ++ S b = S (a ++ b) := by
  have : (S a ++ S b).cps = (S (a ++ b)).cps := by show (S a).cps ++ (S b).cps = _; simp [S]
  cases h : S a ++ S b; cases h' : S (a ++ b); rw [h, h'] at this; simpa using this
theorem S_cut (lo hi : Option Int) (l : List Nat) : strCut lo hi (S l) = S (slc lo hi l) := by unfold strCut; rw [S_list]; rfl
/-- the letters of texts, put together -/
noncomputable def joinL (sep : List Nat) : List (List Nat) → List Nat
  | [] => []
  | [x] => x
  | x :: y :: r => x ++ sep ++ joinL sep (y :: r)
theorem S_join (sep : List Nat) : ∀ ls : List (List Nat), Txt.join (S sep) (ls.map S) = S (joinL sep ls) := by
  intro ls
  have h : ∀ ls : List (List Nat), Str.join (S sep) (ls.map S) = S (joinL sep ls) := by
    intro ls
    induction ls with
    | nil => rfl
    | cons x r ih =>
      cases r with
      | nil => rfl
      | cons y q =>
        show S x ++ S sep ++ Str.join (S sep) ((y :: q).map S) = _
        rw [ih, S_app, S_app]; rfl
  exact (StrLaws.glued_eq_join _ _).trans (h ls)
theorem joinL_len (sep : List Nat) (B : Nat) : ∀ ls : List (List Nat), (∀ l ∈ ls, l.length ≤ B) → (joinL sep ls).length ≤ ls.length * (B + sep.length)
  | [], _ => by simp [joinL]
  | [x], h => by have := h x (.head _); simp [joinL]; exact z401 this
  | x :: y :: r, h => by
    have h1 := h x (.head _)
    have h2 := joinL_len sep B (y :: r) fun l hl => h l (.tail _ hl)
    simp only [joinL, List.length_append, List.length_cons] at *
    have e : (r.length + 1 + 1) * (B + sep.length) = (r.length + 1) * (B + sep.length) + (B + sep.length) := by rw [Nat.add_mul (r.length + 1), Nat.one_mul]
    exact z150 e h1 h2
theorem joinOk (sep : List Nat) (ls : List (List Nat)) (B : Nat) (h : ∀ l ∈ ls, l.length ≤ B) (hb : ls.length * B + ls.length * sep.length ≤ 16777216) : JoinOk (S sep) (ls.map S) = true := by
  unfold JoinOk
  have := StrLaws.joinFits (sep := S sep) (texts := ls.map S) (B := B) (fun y hy => by obtain ⟨l, hl, rfl⟩ := List.mem_map.mp hy; rw [S_len]; exact h l hl) (by rw [List.length_map, S_len]; exact hb)
  rw [this]; rfl
section
variable {c : Cfg} {C : Addr} {n : Nat}
/-- the turns -/
noncomputable def turnsOf (cut : List Int) : List Int := (cut.take 8).map (· % 2) ++ List.replicate 8 0
noncomputable def letterOf (a b : Int) : Nat := if (a + b) % 2 = 0 then 97 else 98
noncomputable def textL (cut : List Int) : List Nat := ([1, 0, 0, 1, 1, 0, 0, 1].zip (turnsOf cut)).map fun p => letterOf p.1 p.2
theorem textL_len (cut : List Int) : (textL cut).length = 8 := by
  unfold textL turnsOf
  simp
theorem joinL_ones (l : List Nat) : joinL [] (l.map fun x => [x]) = l := by
  induction l with
  | nil => rfl
  | cons x r ih =>
    cases r with
    | nil => rfl
    | cons y q => simp only [List.map_cons, joinL, List.append_nil] at *; rw [ih]; rfl
theorem text_ex (G : Globs c C) (cut : List Int) (hl : cut.length ≤ 100) : Ex c n (namesOf 11) [] none [("cut", LI cut)] (bodyOf 11) (fun _ _ => False) (· = .str (S (textL cut))) := by
  have e1 : LI (turnsOf cut) = .list (((cut.take 8).map D.int).map (fun d => match d with | .int a => .int (a % 2) | d => d) ++ repL (8 : Int).toNat [.int 0]) := by
    unfold turnsOf LI repL
    rw [List.map_append, List.map_map, List.map_map]
    rfl
  have hs : slc none (some 8) (cut.map D.int) = (cut.take 8).map D.int := by
    unfold slc clp; simp only [List.drop_zero, List.length_map]
    rw [← List.map_take]
    congr 1
    rcases Nat.le_total cut.length 8 with h | h
    · rw [List.take_of_length_le h, List.take_of_length_le (by omega)]
    · congr 1; omega
  refine Ex.cons (Ex1.assign (d := LI (turnsOf cut)) ?_ (by walk_at "store") ?_ no_own (by intro env _ _; rfl))
  · rw [e1]
    refine Ev.bin (Ev.comp1 _ (by decide +kernel) (Src.list ?_) (by decide +kernel) (by simp [lim]; exact z322 hl) fun d hd => ?_) (Ev.bin (by walk_at "ev") (by walk_at "ev") (Op2.lmul _ _ (by decide) (by decide) (by decide) (by decide))) (Op2.ladd _ _ (by simp [lim, repL]; exact z321 hl))
    · rw [← hs]
      exact Ev.cutL (by walk_at "ev") .none (.some (by walk_at "ev"))
    · obtain ⟨a, _, rfl⟩ := List.mem_map.mp hd
      exact ⟨_, Binds.name _ _ _ (.inl (by with_unfolding_all rfl)) (by decide +kernel), by walk_at "ev"⟩
  refine Ex.cons ?_
  have hq : ∃ q, q = D.str (S (textL cut)) := ⟨_, rfl⟩
  obtain ⟨q, hq⟩ := hq
  rw [← hq]
  with_reducible refine Ex1.ret (d := q) ?_ rfl
  have e2 : (List.zipWith (fun a b => D.tup [a, b]) (([1, 0, 0, 1, 1, 0, 0, 1] : List Int).map D.int) ((turnsOf cut).map D.int)).map (fun d => match d with | .tup [.int a, .int b] => D.str (S [letterOf a b]) | d => d) = ((textL cut).map fun x => [x]).map fun l => .str (S l) := by
    rw [zip_ints]
    generalize hz : ([1, 0, 0, 1, 1, 0, 0, 1] : List Int).zip (turnsOf cut) = z
    have ht : textL cut = z.map fun p => letterOf p.1 p.2 := by rw [← hz]; rfl
    rw [ht]
    simp only [List.map_map, Function.comp_def]
  have hj : Txt.join (S []) (((textL cut).map fun x => [x]).map S) = S (textL cut) := by rw [S_join, joinL_ones]
  have h8 := textL_len cut
  have hm := Mt.join (c := c) (n := n) (S []) (((textL cut).map fun x => [x]).map S) (joinOk _ _ 1 (by intro l hl; obtain ⟨x, _, rfl⟩ := List.mem_map.mp hl; exact Nat.le_refl _) (by simp [h8])) (by rw [hj, S_len, h8]; decide)
  rw [hj] at hm
  have hl' : ∃ L, L = D.list (((textL cut).map fun x => [x]).map fun l => .str (S l)) := ⟨_, rfl⟩
  obtain ⟨L, hL⟩ := hl'
  have hm' : Mt c n "join" (.str (S [])) [L] q := by
    rw [hL, hq]
    generalize S (textL cut) = g at *
    simpa only [List.map_map, Function.comp_def] using hm
  with_reducible refine Ev.meth (d₀ := .str (S [])) (ds := [L]) ?hb (Evs.cons (he := ?st) ?hx Evs.nil) hm' ?hd ?ns ?ln ?po ?ab
  case hd => intro _ h; cases h
  case st => with_unfolding_all rfl
  case ns => with_unfolding_all rfl
  case ln => simp
  case po => with_unfolding_all rfl
  case ab => intro _; with_unfolding_all rfl
  case hb => exact Ev.str _ _ _ (by decide)
  rw [hL]
  rw [← e2]
  refine Ev.comp1 _ (by decide +kernel) (Src.zip (ds := [.int 1, .int 0, .int 0, .int 1, .int 1, .int 0, .int 0, .int 1]) (es := (turnsOf cut).map D.int) rfl (by walk_at "ev") (by walk_at "ev") (by walk_at "ev")) (by decide +kernel) (by simp [lim]; exact z331) fun d hd => ?_
  rw [zip_ints] at hd
  obtain ⟨⟨a, b⟩, hp, rfl⟩ := List.mem_map.mp hd
  refine ⟨_, Binds.pair _ _ _ _ _ _ _ _ (.inl (by with_unfolding_all rfl)) (by decide +kernel) (.inl (by with_unfolding_all rfl)) (by decide +kernel), ?_⟩
  have hab : 0 ≤ (a + b) % 2 ∧ (a + b) % 2 < 2 := ⟨Int.emod_nonneg _ (by decide), Int.emod_lt_of_pos _ (by decide)⟩
  have hg := Got.str (c := c) (n := n) (S [97, 98]) ((a + b) % 2) hab.1 (by rw [S_len]; exact hab.2) (by rw [S_len]; decide)
  have e3 : (⟨#[(S [97, 98]).cps.toList.getD ((a + b) % 2).toNat 0]⟩ : Str) = S [letterOf a b] := by
    rw [S_list]
    unfold letterOf
    rcases (by exact z137 hab : (a + b) % 2 = 0 ∨ (a + b) % 2 = 1) with h | h <;> rw [h] <;> rfl
  rw [e3] at hg
  have e4 : S [97, 98] = Str.ofString "ab" := by decide +kernel
  rw [e4] at hg
  with_reducible refine Ev.item (hs := ?hs) ?h1 ?h2 hg
  case hs => exact fun _ _ => rfl
  case h1 => exact Ev.str _ _ _ (by decide)
  case h2 => walk_at "ev"
end
end
section
open PySem PySem.W PyProof.Rows PySem.Float64
variable [Lo]
set_option maxRecDepth 100000
/-- the draws, after i steps -/
noncomputable def drawsTo (cut : List Int) : Nat → List Int
  | 0 => [0, 0, 0, 0, 0]
  | i + 1 => (drawsTo cut i).set (i % 5) (at' (drawsTo cut i) ((i : Int) % 5) + at' cut i / 2)
theorem drawsTo_len (cut : List Int) (i : Nat) : (drawsTo cut i).length = 5 := by
  induction i with
  | zero => rfl
  | succ i ih => rw [drawsTo, List.length_set, ih]
section
variable {c : Cfg} {C : Addr} {n : Nat}
theorem draws_ex (G : Globs c C) (cut : List Int) (hl : cut.length ≤ 100) : Ex c n (namesOf 12) [] none [("cut", LI cut)] (bodyOf 12) (fun _ _ => False) (· = LI (drawsTo cut cut.length)) := by
  refine Ex.cons (Ex1.assignNew (ds := (drawsTo cut 0).map .int) (EvNew.display (ds := [.int 0, .int 0, .int 0, .int 0, .int 0]) (by walk_at "ev") (by decide)) (by walk_at "store") (by with_unfolding_all rfl) ?_)
  have hlc : Fn c n (.builtin "len") [LI cut] [] (.int cut.length) := by
    have := Fn.lenL (c := c) (n := n) (cut.map D.int)
    rwa [List.length_map] at this
  have hlen : ((rng 0 cut.length).map D.int).length = cut.length := by rw [rng_len]; exact z221 hl
  refine Ex.cons (Ex1.for_ (src := (rng 0 cut.length).map .int)
    (fun i o ρ => o = some (("draws" : Str), (drawsTo cut i).map D.int) ∧ Sub [("cut", LI cut)] ρ)
    (Src.range1 (by walk_at "ev") (by walk_at "ev"; exact hlc) (by constructor <;> (first | exact z361 hlen hl | exact z418 hlen hl))) ⟨_, ⟨rfl, ?_⟩, fun _ _ e => e⟩ (fun i d hd o' ρ' hI => ?_) fun o' ρ' hI => ?_)
  · walk_at "sub"
  · obtain ⟨rfl, hS⟩ := hI
    obtain ⟨rfl, hi⟩ := rng_get hd
    rw [Int.zero_add] at hi ⊢
    refine ⟨[("k", .int i)], Binds.name _ _ _ (.inl (by with_unfolding_all rfl)) (by decide +kernel), (fun y ds e => by cases e; decide +kernel), Ex.sub hS.both ?_⟩
    have h5 := drawsTo_len cut i
    have g1 := ints_get (drawsTo cut i) ((i : Int) % 5) (by exact z370) (by exact z287 h5)
    have g2 := ints_get cut (i : Int) (by exact z474) (by omega)
    refine Ex.cons (Ex1.setItem (i := (i : Int) % 5) (d := .int (at' (drawsTo cut i) ((i : Int) % 5) + at' cut i / 2)) ?_ ?_ (by exact z370) (by rw [List.length_map, h5]; exact z340) (Ex.nil ⟨?_, ?_⟩))
    · refine Ev.own (.int _) ?_
      refine Ev.bin (Ev.item (by walk_at "ev") (by walk_at "ev") (Got.list _ _ _ (by exact z370) g1)) (Ev.bin (Ev.item (by walk_at "ev") (by walk_at "ev") (Got.list _ _ _ (by exact z474) g2)) (by walk_at "ev") (by walk_at "ev")) (Op2.iadd _ _)
    · walk_at "ev"
    · rw [drawsTo, List.map_set]
      congr 3
    · walk_at "sub"
  · obtain ⟨rfl, hS⟩ := hI
    rw [hlen]
    refine Ex.release (Ex.cons (Ex1.ret (d := LI (drawsTo cut cut.length)) ?_ rfl))
    refine Ev.name ?_ (by decide +kernel)
    with_unfolding_all rfl
end
end
section
open PySem PySem.W PyProof.Rows PySem.Float64
variable [Lo]
set_option maxRecDepth 100000
section
variable {c : Cfg} {n : Nat} {names : Names} {cl : List Str} {N : Own → Vars → Prop} {R : D → Prop}
theorem flat_len {α : Type} {β : Type} (g : α → List β) (B : Nat) (src : List α) (h : ∀ v ∈ src, (g v).length ≤ B) : (src.flatMap g).length ≤ src.length * B := by
  induction src with
  | nil => simp
  | cons v r ih =>
    have h1 := h v (.head _)
    have h2 := ih fun w hw => h w (.tail _ hw)
    rw [List.flatMap_cons, List.length_append, List.length_cons, Nat.succ_mul]
    exact z305 h1 h2
theorem take_succ_flat {α : Type} {β : Type} (g : α → List β) (src : List α) (i : Nat) (v : α) (h : src[i]? = some v) : (src.take (i + 1)).flatMap g = (src.take i).flatMap g ++ g v := by
  rw [List.take_add_one, h, List.flatMap_append]
  simp
/-- a for statement over integers whose body grows the own list -/
theorem Ex1.forGrow {x y : Str} {px : Pos} {iter : Expr} {body : List Stmt} {pos : Pos} {ds : List D} {src : List Int} {ρ ρ₁ : Vars} (g : Int → List D)
    (hsrc : Src c n names (some (y, ds)) ρ (.Name x px) iter (src.map .int)) (h0 : Sub ρ₁ ρ)
    (hb : ∀ v, Binds names cl (.Name x px) (.int v) [(x, .int v)]) (hy : y ∉ binder (.Name x px))
    (step : ∀ i v, src[i]? = some v → Ex c n names cl (some (y, ds ++ (src.take i).flatMap g)) ((x, .int v) :: ρ₁) body (fun o ρ' => o = some (y, ds ++ (src.take i).flatMap g ++ g v) ∧ Sub ρ₁ ρ') R)
    (hN : ∀ ρ', Sub ρ₁ ρ' → N (some (y, ds ++ src.flatMap g)) ρ') : Ex1 c n names cl (some (y, ds)) ρ (.For (.Name x px) iter body [] pos) N R := by
  refine Ex1.for_ (src := src.map .int) (fun i o ρ' => o = some (y, ds ++ (src.take i).flatMap g) ∧ Sub ρ₁ ρ') hsrc ⟨ρ, ⟨by simp, h0⟩, fun _ _ e => e⟩ (fun i d hd o' ρ' hI => ?_) fun o' ρ' hI => ?_
  · obtain ⟨rfl, hS⟩ := hI
    rw [List.getElem?_map] at hd
    cases hv : src[i]? with
    | none => rw [hv] at hd; cases hd
    | some v =>
      rw [hv] at hd
      cases hd
      refine ⟨[(x, .int v)], hb v, (fun z es e => by cases e; exact hy), Ex.sub (ρ' := (x, .int v) :: ρ₁) (Sub.both (bs := [(x, .int v)]) hS) ?_⟩
      refine Ex.mono (step i v hv) (fun o ρ h => ?_) (fun _ h => h)
      obtain ⟨rfl, h⟩ := h
      refine ⟨?_, h⟩
      rw [take_succ_flat g src i v hv, List.append_assoc]
  · obtain ⟨rfl, hS⟩ := hI
    rw [List.length_map, List.take_length]
    exact hN _ hS
end
end
section
open PySem PySem.W PyProof.Rows PySem.Float64
variable [Lo]
set_option maxRecDepth 100000
/-- the rows -/
noncomputable def rowsR (p q b s : Int) : List (List Int) := (rng (q + b) (s + 1)).map fun r => [p, q, r]
noncomputable def rowsQ (p a b c' s : Int) : List (List Int) := (rng (p + a) (s - b - c' + 1)).flatMap fun q => rowsR p q b (s - c')
noncomputable def rowsOf (f a b c' s : Int) : List (List Int) := (rng f (s - (a + b + c') + 1)).flatMap fun p => rowsQ p a b c' s
theorem rng_mem {a b v : Int} (h : v ∈ rng a b) : a ≤ v ∧ v < b := by
  unfold rng at h
  obtain ⟨i, hi, rfl⟩ := List.mem_map.mp h
  have := List.mem_range.mp hi
  exact z197 this
theorem rng_length (a b : Int) : (rng a b).length = (b - a).toNat := by simp [rng]
theorem mapflat {α : Type} (src : List α) (g : α → List (List Int)) : src.flatMap (fun v => (g v).map LI) = (src.flatMap g).map LI := by
  induction src with
  | nil => rfl
  | cons v r ih => rw [List.flatMap_cons, List.flatMap_cons, List.map_append, ih]
section
variable {c : Cfg} {C : Addr} {n : Nat}
theorem rows_ex (G : Globs c C) (f a b c' s : Int) (hf : 0 ≤ f ∧ f ≤ 8) (hs : 0 ≤ s ∧ s ≤ 8) (ha : 0 ≤ a ∧ a ≤ 8) (hb : 0 ≤ b ∧ b ≤ 8) (hc : 0 ≤ c' ∧ c' ≤ 8) :
    Ex c n (namesOf 13) [] none [("stop", .int s), ("sizes", LI [a, b, c']), ("first", .int f)] (bodyOf 13) (fun _ _ => False) (· = .list ((rowsOf f a b c' s).map LI)) := by
  have lR : ∀ p q, 0 ≤ q → (rowsR p q b (s - c')).length ≤ 9 := fun p q hq => by unfold rowsR; rw [List.length_map, rng_length]; exact z82 hs hb hc hq
  have lQ : ∀ p, 0 ≤ p → (rowsQ p a b c' s).length ≤ 81 := fun p hp => by
    have := flat_len (fun q => rowsR p q b (s - c')) 9 (rng (p + a) (s - b - c' + 1)) fun q hq => lR p q (by have := rng_mem hq; exact z233 ha this hp)
    have h2 := rng_length (p + a) (s - b - c' + 1)
    unfold rowsQ
    exact z26 hs ha hb hc hp h2 this
  refine Ex.cons (Ex1.assignNew (ds := []) (EvNew.display Evs.nil (by decide)) (by walk_at "store") (by with_unfolding_all rfl) ?_)
  have hsum : Fn c n (.builtin "sum") [LI [a, b, c']] [] (.int (a + b + c')) := by
    have := Fn.sum (c := c) (n := n) [a, b, c'] (by intro z hz; simp at hz; exact z83 ha hb hc hz)
    rw [show [a, b, c'].sum = a + b + c' by simp [List.sum]; exact z371] at this
    exact this
  refine Ex.cons (Ex1.forGrow (ρ₁ := [("stop", .int s), ("sizes", LI [a, b, c']), ("first", .int f)]) (src := rng f (s - (a + b + c') + 1)) (fun p => (rowsQ p a b c' s).map LI)
    (Src.range2 (by walk_at "ev") (by walk_at "ev") (Ev.bin (Ev.bin (d₁ := .int s) (by walk_at "ev") (Ev.call (f := .builtin "sum") (ds := [LI [a, b, c']]) (ks := []) (by walk_at "ev") (by walk_at "ev") Kws.nil hsum) (Op2.isub _ _)) (d₂ := .int 1) (by walk_at "ev") (Op2.iadd _ _)) (by constructor <;> (first | exact z455 hf | exact z501 hf)) (by constructor <;> (first | exact z138 hs ha hb hc | exact z141 hs ha hb hc))) (Sub.refl _)
    (fun v => Binds.name _ _ _ (.inl (by with_unfolding_all rfl)) (by decide +kernel)) (by decide +kernel) (fun i p hp => ?_) fun ρ' hS => ?_)
  · have hpm := rng_mem (List.mem_of_getElem? hp)
    have hi : i < (rng f (s - (a + b + c') + 1)).length := (List.getElem?_eq_some_iff.mp hp).1
    rw [rng_length] at hi
    generalize hD : [] ++ ((rng f (s - (a + b + c') + 1)).take i).flatMap (fun p => (rowsQ p a b c' s).map LI) = ds
    have hDl : ds.length ≤ i * 81 := by
      rw [← hD, List.nil_append]
      have := flat_len (fun p => (rowsQ p a b c' s).map LI) 81 ((rng f (s - (a + b + c') + 1)).take i) fun q hq => by
        rw [List.length_map]; exact lQ q (by have := rng_mem (List.mem_of_mem_take hq); exact z273 hf this)
      rw [List.length_take] at this
      have h3 : min i (rng f (s - (a + b + c') + 1)).length * 81 ≤ i * 81 := Nat.mul_le_mul_right _ (Nat.min_le_left _ _)
      exact z133 h3 this
    refine Ex.cons (Ex1.forGrow (ρ₁ := [("p", .int p), ("stop", .int s), ("sizes", LI [a, b, c']), ("first", .int f)]) (src := rng (p + a) (s - b - c' + 1)) (fun q => (rowsR p q b (s - c')).map LI)
      (Src.range2 (by walk_at "ev") (a := p + a) (b := s - b - c' + 1) ?_ ?_ (by constructor <;> (first | exact z114 hs hb hc hpm | exact z204 hf ha hpm)) (by constructor <;> (first | exact z199 hs hb hc | exact z99 hf ha hpm))) (Sub.refl _)
      (fun v => Binds.name _ _ _ (.inl (by with_unfolding_all rfl)) (by decide +kernel)) (by decide +kernel) (fun j q hq => ?_) fun ρ' hS => ?_)
    · exact Ev.bin (d₁ := .int p) (d₂ := .int a) (by walk_at "ev") (Ev.item (by walk_at "ev") (by walk_at "ev") (Got.list [.int a, .int b, .int c'] 0 (.int a) (by decide) rfl)) (Op2.iadd _ _)
    · exact Ev.bin (d₁ := .int (s - b - c')) (d₂ := .int 1) (Ev.bin (d₁ := .int (s - b)) (d₂ := .int c') (Ev.bin (d₁ := .int s) (d₂ := .int b) (by walk_at "ev") (Ev.item (by walk_at "ev") (by walk_at "ev") (Got.list [.int a, .int b, .int c'] 1 (.int b) (by decide) rfl)) (Op2.isub _ _)) (Ev.item (by walk_at "ev") (by walk_at "ev") (Got.list [.int a, .int b, .int c'] 2 (.int c') (by decide) rfl)) (Op2.isub _ _)) (by walk_at "ev") (Op2.iadd _ _)
    · have hqm := rng_mem (List.mem_of_getElem? hq)
      have hj : j < (rng (p + a) (s - b - c' + 1)).length := (List.getElem?_eq_some_iff.mp hq).1
      rw [rng_length] at hj
      generalize hE : ds ++ ((rng (p + a) (s - b - c' + 1)).take j).flatMap (fun q => (rowsR p q b (s - c')).map LI) = es
      have hEl : es.length ≤ i * 81 + j * 9 := by
        rw [← hE, List.length_append]
        have := flat_len (fun q => (rowsR p q b (s - c')).map LI) 9 ((rng (p + a) (s - b - c' + 1)).take j) fun z hz => by
          rw [List.length_map]; exact lR p z (by have := rng_mem (List.mem_of_mem_take hz); exact z105 hf ha this hpm)
        rw [List.length_take] at this
        have h3 : min j (rng (p + a) (s - b - c' + 1)).length * 9 ≤ j * 9 := Nat.mul_le_mul_right _ (Nat.min_le_left _ _)
        exact z55 h3 this hDl
      refine Ex.cons (Ex1.forGrow (ρ₁ := [("q", .int q), ("p", .int p), ("stop", .int s), ("sizes", LI [a, b, c']), ("first", .int f)]) (src := rng (q + b) (s - c' + 1)) (fun r => [LI [p, q, r]])
        (Src.range2 (by walk_at "ev") (a := q + b) (b := s - c' + 1) ?_ ?_ (by constructor <;> (first | exact z117 hs hc hqm | exact z79 hf ha hb hqm hpm)) (by constructor <;> (first | exact z285 hs hc | exact z57 hf ha hb hqm hpm))) (Sub.refl _)
        (fun v => Binds.name _ _ _ (.inl (by with_unfolding_all rfl)) (by decide +kernel)) (by decide +kernel) (fun k r hr => ?_) fun ρ' hS => ?_)
      · exact Ev.bin (d₁ := .int q) (d₂ := .int b) (by walk_at "ev") (Ev.item (by walk_at "ev") (by walk_at "ev") (Got.list [.int a, .int b, .int c'] 1 (.int b) (by decide) rfl)) (Op2.iadd _ _)
      · exact Ev.bin (d₁ := .int (s - c')) (d₂ := .int 1) (Ev.bin (d₁ := .int s) (d₂ := .int c') (by walk_at "ev") (Ev.item (by walk_at "ev") (by walk_at "ev") (Got.list [.int a, .int b, .int c'] 2 (.int c') (by decide) rfl)) (Op2.isub _ _)) (by walk_at "ev") (Op2.iadd _ _)
      · have hk : k < (rng (q + b) (s - c' + 1)).length := (List.getElem?_eq_some_iff.mp hr).1
        rw [rng_length] at hk
        generalize hF : es ++ ((rng (q + b) (s - c' + 1)).take k).flatMap (fun r => [LI [p, q, r]]) = fs
        have hFl : fs.length ≤ es.length + k := by
          rw [← hF, List.length_append]
          have := flat_len (fun r => [LI [p, q, r]]) 1 ((rng (q + b) (s - c' + 1)).take k) fun z hz => Nat.le_refl _
          rw [List.length_take] at this
          exact z29 this
        refine Ex.cons (Ex1.append (d := LI [p, q, r]) ?_ (by simp only [lim]; exact z0 hf hs ha hb hc hqm hpm hj hi hk hEl hFl) (Ex.nil ⟨rfl, by walk_at "sub"⟩))
        exact Ev.list (ds := [.int p, .int q, .int r]) (by walk_at "ev") (by simp [lim])
      · refine Ex.nil ⟨?_, fun x d h => hS _ _ ((by walk_at "sub" : Sub [("p", .int p), ("stop", .int s), ("sizes", LI [a, b, c']), ("first", .int f)] [("q", .int q), ("p", .int p), ("stop", .int s), ("sizes", LI [a, b, c']), ("first", .int f)]) _ _ h)⟩
        have e : (rng (q + b) (s - c' + 1)).flatMap (fun r => [LI [p, q, r]]) = (rowsR p q b (s - c')).map LI := by
          unfold rowsR
          rw [List.map_map]
          generalize rng (q + b) (s - c' + 1) = l
          induction l with
          | nil => rfl
          | cons z l ih => rw [List.flatMap_cons, ih]; rfl
        rw [e]
    · refine Ex.nil ⟨?_, fun x d h => hS _ _ ((by walk_at "sub" : Sub [("stop", .int s), ("sizes", LI [a, b, c']), ("first", .int f)] [("p", .int p), ("stop", .int s), ("sizes", LI [a, b, c']), ("first", .int f)]) _ _ h)⟩
      rw [mapflat]; rfl
  · refine Ex.release (Ex.cons (Ex1.ret (d := .list ((rowsOf f a b c' s).map LI)) ?_ rfl))
    refine Ev.name ?_ (by decide +kernel)
    rw [List.nil_append, mapflat]
    with_unfolding_all rfl
end
end
section
open PySem PySem.W PyProof.Rows PySem.Float64
variable [Lo]
set_option maxRecDepth 100000
noncomputable def tildes (k : Int) : List Nat := List.replicate k.toNat 126
noncomputable def blotStep (text acc : List Nat) (p sz : Int) : List Nat := acc ++ tildes (p - acc.length) ++ slc (some p) (some (p + sz)) text
noncomputable def blotFold (text : List Nat) : List Nat → List (Int × Int) → List Nat
  | acc, [] => acc
  | acc, (p, sz) :: r => blotFold text (blotStep text acc p sz) r
noncomputable def blotOf (text : List Nat) (row : List Int) (first : Int) (sizes : List Int) (stop : Int) : List Nat :=
  let acc := blotFold text (slc none (some first) text) (row.zip sizes)
  acc ++ tildes (stop - acc.length) ++ slc (some stop) none text
section
variable {c : Cfg} {C : Addr} {n : Nat}
theorem Op2.tilde (k : Int) (h0 : -4096 ≤ k) (h1 : k ≤ 4096) : Op2 c n (binaryOp .Mult) (.str "~") (.int k) (.str (S (tildes k))) := by
  have h := Op2.smul (c := c) (n := n) "~" k h0 h1 (by decide +kernel)
  have e : repL k.toNat ("~" : Str).cps.toList = tildes k := by
    have e1 : ("~" : Str).cps.toList = [126] := by decide +kernel
    rw [e1]
    unfold tildes repL
    generalize k.toNat = m
    simp
  rw [e] at h
  exact h
end
end
section
open PySem PySem.W PyProof.Rows PySem.Float64
variable [Lo]
set_option maxRecDepth 100000
theorem slc_le {α : Type} (lo hi : Option Int) (l : List α) : (slc lo hi l).length ≤ l.length := slc_length lo hi l
theorem blotStep_len (text acc : List Nat) (p sz : Int) (hp : p ≤ 8) : (blotStep text acc p sz).length ≤ acc.length + 8 + text.length := by
  have := slc_le (some p) (some (p + sz)) text
  simp only [blotStep, tildes, List.length_append, List.length_replicate]
  exact z103 hp this
theorem blotFold_snoc (text : List Nat) : ∀ (l : List (Int × Int)) (acc : List Nat) (p sz : Int), blotFold text acc (l ++ [(p, sz)]) = blotStep text (blotFold text acc l) p sz
  | [], _, _, _ => rfl
  | _ :: r, _, p, sz => blotFold_snoc text r _ p sz
theorem blotFold_len (text : List Nat) : ∀ (l : List (Int × Int)) (acc : List Nat), (∀ x ∈ l, x.1 ≤ 8) → (blotFold text acc l).length ≤ acc.length + l.length * (8 + text.length)
  | [], acc, _ => by simp [blotFold]
  | (p, sz) :: r, acc, h => by
    have h1 := blotStep_len text acc p sz (h _ (.head _))
    have h2 := blotFold_len text r (blotStep text acc p sz) fun x hx => h x (.tail _ hx)
    simp only [blotFold, List.length_cons] at *
    rw [Nat.succ_mul]
    exact z212 h1 h2
end
section
open PySem PySem.W PyProof.Rows PySem.Float64
variable [Lo]
set_option maxRecDepth 100000
section
variable {c : Cfg} {C : Addr} {n : Nat}
theorem blot_ex (G : Globs c C) (text : List Nat) (row sizes : List Int) (f s : Int) (ht : text.length ≤ 8) (hf : 0 ≤ f ∧ f ≤ 8) (hs : 0 ≤ s ∧ s ≤ 8) (hr : row.length ≤ 3) (hrow : ∀ x ∈ row, 0 ≤ x ∧ x ≤ 8) (hsz : ∀ x ∈ sizes, 0 ≤ x ∧ x ≤ 8) :
    Ex c n (namesOf 14) [] none [("stop", .int s), ("sizes", LI sizes), ("first", .int f), ("row", LI row), ("text", .str (S text))] (bodyOf 14) (fun _ _ => False) (· = .str (S (blotOf text row f sizes s))) := by
  refine Ex.cons (Ex1.assign (d := .str (S (slc none (some f) text))) ?_ (by walk_at "store") ?_ no_own (by intro env _ _; rfl))
  · rw [← S_cut]
    exact Ev.cutS (by walk_at "ev") .none (.some (by walk_at "ev"))
  refine Ex.cons (Ex1.for_ (src := List.zipWith (fun a b => .tup [a, b]) (row.map .int) (sizes.map .int))
    (fun i o ρ => o = none ∧ Sub [("blotted", .str (S (blotFold text (slc none (some f) text) ((row.zip sizes).take i)))), ("stop", .int s), ("text", .str (S text))] ρ)
    (Src.zip rfl (by walk_at "ev") (by walk_at "ev") (by walk_at "ev")) ⟨_, ⟨rfl, ?_⟩, fun _ _ e => e⟩ (fun i d hd o' ρ' hI => ?_) fun o' ρ' hI => ?_)
  · walk_at "sub"
  · obtain ⟨rfl, hS⟩ := hI
    rw [zip_ints, List.getElem?_map] at hd
    cases hv : (row.zip sizes)[i]? with
    | none => rw [hv] at hd; cases hd
    | some v =>
      obtain ⟨a, b⟩ := v
      rw [hv] at hd
      cases hd
      have hm := List.of_mem_zip (List.mem_of_getElem? hv)
      have h1 := hrow _ hm.1
      have h2 := hsz _ hm.2
      have hacc := blotFold_len text ((row.zip sizes).take i) (slc none (some f) text) fun x hx => (hrow _ (List.of_mem_zip (List.mem_of_mem_take hx)).1).2
      refine ⟨_, Binds.pair _ _ _ _ _ _ _ _ (.inl (by with_unfolding_all rfl)) (by decide +kernel) (.inl (by with_unfolding_all rfl)) (by decide +kernel), (fun y ds e => by exact ns_ e), Ex.sub hS.both ?_⟩
      have hacc' : (blotFold text (slc none (some f) text) ((row.zip sizes).take i)).length ≤ 56 := by
        have h3 := slc_le none (some f) text
        have h4 : ((row.zip sizes).take i).length ≤ 3 := by simp; exact z12 hr
        have h5 : ((row.zip sizes).take i).length * (8 + text.length) ≤ 3 * 16 := Nat.mul_le_mul h4 (by exact z469 ht)
        exact z107 h5 ht hacc h3
      have hsn : blotFold text (slc none (some f) text) ((row.zip sizes).take (i + 1)) = blotStep text (blotFold text (slc none (some f) text) ((row.zip sizes).take i)) a b := by
        rw [List.take_add_one, hv]; exact blotFold_snoc _ _ _ _ _
      rw [hsn]
      generalize blotFold text (slc none (some f) text) ((row.zip sizes).take i) = acc at *
      have hlen : Fn c n (.builtin "len") [.str (S acc)] [] (.int acc.length) := by
        have := Fn.lenS (c := c) (n := n) (S acc); rwa [S_len] at this
      refine Ex.cons (Ex1.assign (d := .str (S (blotStep text acc a b))) ?_ (by walk_at "store") (Ex.nil ⟨rfl, by walk_at "sub"⟩) no_own (by intro env _ _; rfl))
      have l1 : (tildes (a - acc.length)).length ≤ 8 := by simp only [tildes, List.length_replicate]; exact z108 h1 hacc'
      have l2 := slc_le (some a) (some (a + b)) text
      unfold blotStep
      rw [← S_app, ← S_app, ← S_cut]
      refine Ev.bin (Ev.bin (d₁ := .str (S acc)) (d₂ := .str (S (tildes (a - acc.length)))) (by walk_at "ev") (Ev.bin (d₁ := .str "~") (d₂ := .int (a - acc.length)) (Ev.str _ _ _ (by decide)) (Ev.bin (d₁ := .int a) (d₂ := .int acc.length) (by walk_at "ev") (by walk_at "ev"; exact hlen) (Op2.isub _ _)) (Op2.tilde _ (by exact z207 h1 hacc') (by exact z222 h1 hacc'))) (Op2.sadd _ _ (by rw [S_len, S_len]; simp only [lim]; exact z193 hacc' l1)))
        (Ev.cutS (by walk_at "ev") (.some (by walk_at "ev")) (.some (by walk_at "ev"))) (Op2.sadd _ _ (by rw [S_app, S_cut, S_len, S_len, List.length_append]; simp only [lim]; exact z81 hacc' ht l1 l2))
  · obtain ⟨rfl, hS⟩ := hI
    rw [zip_ints, List.length_map, List.take_length] at hS
    have hacc' : (blotFold text (slc none (some f) text) (row.zip sizes)).length ≤ 56 := by
      have hacc := blotFold_len text (row.zip sizes) (slc none (some f) text) fun x hx => (hrow _ (List.of_mem_zip hx).1).2
      have h3 := slc_le none (some f) text
      have h4 : (row.zip sizes).length ≤ 3 := by simp; exact z121 hr
      have h5 : (row.zip sizes).length * (8 + text.length) ≤ 3 * 16 := Nat.mul_le_mul h4 (by exact z469 ht)
      exact z107 h5 ht hacc h3
    unfold blotOf
    generalize blotFold text (slc none (some f) text) (row.zip sizes) = acc at *
    have hlen : Fn c n (.builtin "len") [.str (S acc)] [] (.int acc.length) := by
      have := Fn.lenS (c := c) (n := n) (S acc); rwa [S_len] at this
    have l1 : (tildes (s - acc.length)).length ≤ 8 := by simp only [tildes, List.length_replicate]; exact z108 hs hacc'
    have l2 := slc_le (some s) none text
    refine Ex.sub hS (Ex.cons (Ex1.ret (d := .str (S (acc ++ tildes (s - acc.length) ++ slc (some s) none text))) ?_ rfl))
    rw [← S_app, ← S_app, ← S_cut]
    refine Ev.bin (Ev.bin (d₁ := .str (S acc)) (d₂ := .str (S (tildes (s - acc.length)))) (by walk_at "ev") (Ev.bin (d₁ := .str "~") (d₂ := .int (s - acc.length)) (Ev.str _ _ _ (by decide)) (Ev.bin (d₁ := .int s) (d₂ := .int acc.length) (by walk_at "ev") (by walk_at "ev"; exact hlen) (Op2.isub _ _)) (Op2.tilde _ (by exact z207 hs hacc') (by exact z222 hs hacc'))) (Op2.sadd _ _ (by rw [S_len, S_len]; simp only [lim]; exact z193 hacc' l1)))
      (Ev.cutS (by walk_at "ev") (.some (by walk_at "ev")) .none) (Op2.sadd _ _ (by rw [S_app, S_cut, S_len, S_len, List.length_append]; simp only [lim]; exact z81 hacc' ht l1 l2))
end
end
section
open PySem PySem.W PyProof.Rows PySem.Float64
variable [Lo]
set_option maxRecDepth 100000
/-- the search for the middle pieces -/
noncomputable def loopM (got : Str) (e : Int) : Int → List Str → Bool
  | _, [] => true
  | s, w :: r => if find4 got w s e < 0 then false else loopM got e (find4 got w s e + w.length) r
section
variable {c : Cfg} {C : Addr} {n : Nat}
theorem match_loop (G : Globs c C) (g : Str) (ws : List Str) (s e : Int) (ρ : Vars) (hS : Sub [("ws", .list (ws.map .str)), ("startpos", .int s), ("endpos", .int e), ("got", .str g)] ρ) :
    Ex c n (namesOf 3) [] none ρ ((bodyOf 3).drop 9) (fun _ _ => False) (· = .bool (loopM g e s ws)) := by
  refine Ex.sub hS ?_
  refine Ex.cons (Ex1.for_ (src := ws.map .str)
    (fun i o ρ => o = none ∧ ∃ s', loopM g e s' (ws.drop i) = loopM g e s ws ∧ Sub [("startpos", .int s'), ("endpos", .int e), ("got", .str g)] ρ)
    (Src.list (by walk_at "ev")) ⟨_, ⟨rfl, s, rfl, ?_⟩, fun _ _ e => e⟩ (fun i d hd o' ρ' hI => ?_) fun o' ρ' hI => ?_)
  · walk_at "sub"
  · obtain ⟨rfl, s', hs', hS⟩ := hI
    rw [List.getElem?_map] at hd
    cases hv : ws[i]? with
    | none => rw [hv] at hd; cases hd
    | some w =>
      rw [hv] at hd
      cases hd
      refine ⟨[("w", .str w)], Binds.name _ _ _ (.inl (by with_unfolding_all rfl)) (by decide +kernel), (fun y ds e => by exact ns_ e), Ex.sub hS.both ?_⟩
      have hdrop : ws.drop i = w :: ws.drop (i + 1) := by
        obtain ⟨h1, h2⟩ := List.getElem?_eq_some_iff.mp hv
        rw [List.drop_eq_getElem_cons h1, h2]
      rw [hdrop] at hs'
      refine Ex.cons (Ex1.assign (d := .int (find4 g w s' e)) ?_ (by walk_at "store") ?_ no_own (by intro env _ _; rfl))
      · exact Ev.meth (d₀ := .str g) (ds := [.str w, .int s', .int e]) (by walk_at "ev") (by walk_at "ev") (Mt.find _ _ _ _)
      refine Ex.cons (Ex1.if_ (b := decide (find4 g w s' e < 0)) (by walk_at "ev") (fun h => ?_) fun h => ?_)
      · refine Ex.cons (Ex1.ret (d := .bool false) (by walk_at "ev") ?_)
        have h := of_decide_eq_true h
        rw [← hs']
        simp only [loopM, if_pos h]
      · refine Ex.nil ?_
        have h := of_decide_eq_false h
        refine Ex.cons (Ex1.augAdd (a := find4 g w s' e) (b := w.length) (by with_unfolding_all rfl) (by walk_at "ev") (by walk_at "store") no_own (Ex.nil ⟨rfl, _, ?_, by walk_at "sub"⟩))
        rw [← hs']
        simp only [loopM, if_neg h]
  · obtain ⟨rfl, s', hs', hS⟩ := hI
    rw [List.length_map, List.drop_length] at hs'
    refine Ex.sub hS (Ex.cons (Ex1.ret (d := .bool true) (by walk_at "ev") ?_))
    rw [← hs']
    rfl
end
end
section
open PySem PySem.W PyProof.Rows
variable [Lo]
set_option maxRecDepth 100000
/-- the pieces behind the first, the last one apart -/
noncomputable def finM (g : Str) (s e : Int) (ws : List Str) : Bool := if e < s then false else loopM g e s ws
noncomputable def tailM (g : Str) (s : Int) (pre : List Str) (w : Str) : Bool :=
  if w.length = 0 then finM g s g.length (pre ++ [w]) else if Txt.endswith g w then finM g s (g.length - w.length) pre else false
noncomputable def headM (g w0 : Str) (mid : List Str) (w : Str) : Bool :=
  if w0.length = 0 then tailM g 0 (w0 :: mid) w else if Txt.startswith g w0 then tailM g w0.length mid w else false
section
variable {c : Cfg} {C : Addr} {n : Nat}
theorem match_fin (G : Globs c C) (g : Str) (ws : List Str) (s e : Int) (ρ : Vars) (hS : Sub [("startpos", .int s), ("endpos", .int e), ("got", .str g)] ρ) :
    Ex c n (namesOf 3) [] (some ("ws", ws.map .str)) ρ ((bodyOf 3).drop 8) (fun _ _ => False) (· = .bool (finM g s e ws)) := by
  refine Ex.release (Ex.sub (ρ' := [("ws", .list (ws.map .str)), ("startpos", .int s), ("endpos", .int e), ("got", .str g)]) ?_ ?_)
  · intro x d h
    rw [List.lookup_cons] at h ⊢
    cases hb : x == ("ws" : Str) with
    | true => rw [hb] at h; exact h
    | false => rw [hb] at h; exact hS _ _ h
  refine Ex.cons (Ex1.if_ (b := decide (e < s)) (by walk_at "ev") (fun h => ?_) fun h => ?_)
  · refine Ex.cons (Ex1.ret (d := .bool false) (by walk_at "ev") ?_)
    have h := of_decide_eq_true h
    simp only [finM, if_pos h]
  · refine Ex.nil ?_
    have h := of_decide_eq_false h
    simp only [finM, if_neg h]
    exact match_loop G g ws s e _ (by walk_at "sub")
theorem Fn.lenW (w : Str) : Fn c n (.builtin "len") [.str w] [] (.int w.length) := Fn.lenS w
theorem match_tail (G : Globs c C) (g : Str) (pre : List Str) (w : Str) (s : Int) (ρ : Vars) (hS : Sub [("startpos", .int s), ("endpos", .int g.length), ("got", .str g)] ρ) :
    Ex c n (namesOf 3) [] (some ("ws", (pre ++ [w]).map .str)) ρ ((bodyOf 3).drop 6) (fun _ _ => False) (· = .bool (tailM g s pre w)) := by
  refine Ex.sub hS ?_
  have hlen : ((pre ++ [w]).map D.str).length = pre.length + 1 := by simp
  have hg : ((pre ++ [w]).map D.str)[((-1 : Int) + (((pre ++ [w]).map D.str).length : Int)).toNat]? = some (.str w) := by
    rw [hlen]
    have : ((-1 : Int) + ((pre.length + 1 : Nat) : Int)).toNat = pre.length := by exact z198
    rw [this]; simp
  refine Ex.cons (Ex1.assign (d := .str w) ?_ (by walk_at "store") ?_ (by intro y ds e; cases e; decide +kernel) (by intro env _ _; rfl))
  · exact Ev.own (.str _) (Ev.item (by walk_at "ev") (by walk_at "ev") (Got.listNeg _ _ _ (by decide) (by rw [hlen]; exact z456) hg))
  refine Ex.cons (Ex1.if_ (b := decide (w.length ≠ 0)) (Tr.val (d := .str w) (by walk_at "ev") (Truth.str _)) (fun h => ?_) fun h => ?_)
  · have h := of_decide_eq_true h
    refine Ex.cons (Ex1.if_ (b := Txt.endswith g w) (Tr.val (d := .bool (Txt.endswith g w)) (Ev.meth (d₀ := .str g) (ds := [.str w]) (by walk_at "ev") (by walk_at "ev") (Mt.endswith _ _)) (Truth.bool _)) (fun h' => ?_) fun h' => ?_)
    · refine Ex.cons (Ex1.augSub (a := g.length) (b := w.length) (by with_unfolding_all rfl) (by walk_at "ev") (by walk_at "store") (by intro y ds e; cases e; decide +kernel) ?_)
      refine Ex.cons (Ex1.delItem (i := -1) (k := pre.length) (by walk_at "ev") (by decide +kernel) ?_ (Ex.nil (Ex.nil ?_)))
      · rw [hlen]; unfold seqIndex?; simp; exact z119
      · have he : ((pre ++ [w]).map D.str).eraseIdx pre.length = pre.map D.str := by
          rw [List.map_append, List.eraseIdx_append_of_length_le (by simp)]; simp
        rw [he]
        have e2 : tailM g s pre w = finM g s (g.length - w.length) pre := by simp only [tailM, if_neg h, h', if_true]
        rw [e2]
        exact match_fin G g pre s _ _ (by walk_at "sub")
    · refine Ex.cons (Ex1.ret (d := .bool false) (by walk_at "ev") ?_)
      simp only [tailM, if_neg h, h']; rfl
  · refine Ex.nil ?_
    have h := of_decide_eq_false h
    have e2 : tailM g s pre w = finM g s g.length (pre ++ [w]) := by simp only [tailM]; rw [if_pos (Classical.not_not.mp h)]
    rw [e2]
    exact match_fin G g _ s _ _ (by walk_at "sub")
theorem match_head (G : Globs c C) (g w0 : Str) (mid : List Str) (w : Str) (ρ : Vars) (hS : Sub [("got", .str g)] ρ) :
    Ex c n (namesOf 3) [] (some ("ws", (w0 :: (mid ++ [w])).map .str)) ρ ((bodyOf 3).drop 2) (fun _ _ => False) (· = .bool (headM g w0 mid w)) := by
  refine Ex.sub hS ?_
  have hlen : ((w0 :: (mid ++ [w])).map D.str).length = mid.length + 2 := by simp
  refine Ex.cons (Ex1.assert (Tr.own ?_) ?_)
  · have h2 : decide ((2 : Int) ≤ (((w0 :: (mid ++ [w])).map D.str).length : Int)) = true := by rw [hlen]; simp; exact z491
    rw [← h2]
    walk_at "ev"
  refine Ex.cons (Ex1.assignSwap (d₁ := .int 0) (d₂ := .int g.length) (by walk_at "ev") (by walk_at "store") (by walk_at "store") ?_ (by intro y ds e; cases e; decide +kernel) (by intro y ds e; cases e; decide +kernel) (by intro env; rfl) (by intro env hn hk; obtain ⟨⟨_, _, _, _, _⟩⟩ := env; cases hn; cases hk; with_unfolding_all rfl))
  refine Ex.cons (Ex1.assign (d := .str w0) ?_ (by walk_at "store") ?_ (by intro y ds e; cases e; decide +kernel) (by intro env _ _; rfl))
  · exact Ev.own (.str _) (Ev.item (by walk_at "ev") (by walk_at "ev") (Got.list _ _ _ (by decide) rfl))
  refine Ex.cons (Ex1.if_ (b := decide (w0.length ≠ 0)) (Tr.val (d := .str w0) (by walk_at "ev") (Truth.str _)) (fun h => ?_) fun h => ?_)
  · have h := of_decide_eq_true h
    refine Ex.cons (Ex1.if_ (b := Txt.startswith g w0) (Tr.val (d := .bool (Txt.startswith g w0)) (Ev.meth (d₀ := .str g) (ds := [.str w0]) (by walk_at "ev") (by walk_at "ev") (Mt.startswith _ _)) (Truth.bool _)) (fun h' => ?_) fun h' => ?_)
    · refine Ex.cons (Ex1.assign (d := .int w0.length) (by walk_at "ev") (by walk_at "store") ?_ (by intro y ds e; cases e; decide +kernel) (by intro env _ _; rfl))
      refine Ex.cons (Ex1.delItem (i := 0) (k := 0) (by walk_at "ev") (by decide +kernel) ?_ (Ex.nil (Ex.nil ?_)))
      · rw [hlen]; unfold seqIndex?; simp; exact z503
      · have e2 : headM g w0 mid w = tailM g w0.length mid w := by simp only [headM, if_neg h, h', if_true]
        rw [e2]
        exact match_tail G g mid w _ _ (by walk_at "sub")
    · refine Ex.cons (Ex1.ret (d := .bool false) (by walk_at "ev") ?_)
      simp only [headM, if_neg h, h']; rfl
  · refine Ex.nil ?_
    have h := of_decide_eq_false h
    have e2 : headM g w0 mid w = tailM g 0 (w0 :: mid) w := by simp only [headM]; rw [if_pos (Classical.not_not.mp h)]
    rw [e2]
    exact match_tail G g (w0 :: mid) w _ _ (by walk_at "sub")
/-- without dots -/
theorem match_plain (G : Globs c C) (x g : Str) (h : Txt.contains x "..." = false) : Ex c n (namesOf 3) [] none [("got", .str g), ("want", .str x)] (bodyOf 3) (fun _ _ => False) (· = .bool (decide (x = g))) := by
  refine Ex.cons (Ex1.if_ (b := true) ?_ (fun _ => ?_) fun h => by exact tf_ h)
  · have e : true = !Txt.contains x "..." := by rw [h]; rfl
    rw [e]
    exact Tr.cmp (d₁ := .str "...") (d₂ := .str x) (by walk_at "ev") (by walk_at "ev") (Op2.snotin _ _)
  · exact Ex.cons (Ex1.ret (d := .bool (decide (x = g))) (by walk_at "ev") rfl)
theorem match_ex (G : Globs c C) (x g w0 : Str) (mid : List Str) (w : Str) (h : Txt.contains x "..." = true) (hs : Txt.split x "..." = w0 :: (mid ++ [w])) (hl : mid.length ≤ 100) (hx : ∀ z ∈ w0 :: (mid ++ [w]), z.length ≤ lim) :
    Ex c n (namesOf 3) [] none [("got", .str g), ("want", .str x)] (bodyOf 3) (fun _ _ => False) (· = .bool (headM g w0 mid w)) := by
  refine Ex.cons (Ex1.if_ (b := false) ?_ (fun h => by exact ft_ h) fun _ => Ex.nil ?_)
  · have e : false = !Txt.contains x "..." := by rw [h]; rfl
    rw [e]
    exact Tr.cmp (d₁ := .str "...") (d₂ := .str x) (by walk_at "ev") (by walk_at "ev") (Op2.snotin _ _)
  refine Ex.cons (Ex1.assignNew (ds := (w0 :: (mid ++ [w])).map .str) ?_ (by walk_at "store") (by with_unfolding_all rfl) ?_)
  · rw [← hs]
    exact EvNew.split (by walk_at "ev") (by walk_at "ev") (by decide +kernel) (by rw [hs]; simp [lim]; exact z516 hl) (by rw [hs]; exact hx)
  exact match_head G g w0 mid w _ (by walk_at "sub")
end
end
section
open PySem PySem.W PyProof.Rows
variable [Lo]
/-- texts in a row, one behind the other, with room between -/
noncomputable def Dec : List (List Nat) → List Nat → Prop
  | [], _ => True
  | w :: r, m => ∃ x y, m = x ++ w ++ y ∧ Dec r y
/-- front, end, and the pieces between -/
noncomputable def Fits (F : List Nat) (ps : List (List Nat)) (E g : List Nat) : Prop := ∃ m, g = F ++ m ++ E ∧ Dec ps m
noncomputable def dots : List Nat := [46, 46, 46]
/-- what the law's walk asks of the program's functions -/
structure Fns (c : Cfg) (n : Nat) : Prop where
  text : ∀ cut : List Int, cut.length ≤ 100 → Fn c n (.ref 96) [LI cut] [] (.str (S (textL cut)))
  draws : ∀ cut : List Int, cut.length ≤ 100 → Fn c n (.ref 103) [LI cut] [] (LI (drawsTo cut cut.length))
  rows : ∀ f a b c' s : Int, 0 ≤ f ∧ f ≤ 8 → 0 ≤ s ∧ s ≤ 8 → 0 ≤ a ∧ a ≤ 8 → 0 ≤ b ∧ b ≤ 8 → 0 ≤ c' ∧ c' ≤ 8 → Fn c n (.ref 110) [.int f, LI [a, b, c'], .int s] [] (.list ((rowsOf f a b c' s).map LI))
  blot : ∀ (text : List Nat) (row sizes : List Int) (f s : Int), text.length ≤ 8 → 0 ≤ f ∧ f ≤ 8 → 0 ≤ s ∧ s ≤ 8 → row.length ≤ 3 → (∀ x ∈ row, 0 ≤ x ∧ x ≤ 8) → (∀ x ∈ sizes, 0 ≤ x ∧ x ≤ 8) →
    Fn c n (.ref 117) [.str (S text), LI row, .int f, LI sizes, .int s] [] (.str (S (blotOf text row f sizes s)))
  dotted : ∀ (F : List Nat) (ps : List (List Nat)) (E g : List Nat) (b : Bool), 46 ∉ F → (∀ p ∈ ps, 46 ∉ p) → 46 ∉ E → ps.length ≤ 8 → (∀ p ∈ F :: (ps ++ [E]), p.length ≤ 8) → (b = true ↔ Fits F ps E g) →
    Fn c n (.ref 49) [.str (S (joinL dots (F :: (ps ++ [E])))), .str (S g)] [] (.bool b)
  plain : ∀ (F g : List Nat), 46 ∉ F → Fn c n (.ref 49) [.str (S F), .str (S g)] [] (.bool (decide (F = g)))
  low : ∀ ns : List Int, 0 < ns.length → ns.length < 64 → Fn c n (.ref 69) [LI ns] [] (.int (midLow ns))
  high : ∀ ns : List Int, 0 < ns.length → ns.length < 64 → Fn c n (.ref 76) [LI ns] [] (.int (midHigh ns))
  quant : ∀ ns : List Int, 2 ≤ ns.length → ns.length ≤ 8 → (∀ x ∈ ns, 0 ≤ x ∧ x ≤ 8) → Fn c n (.ref 84) [LI ns] [("n", .int (ns.length + 1))] (.list ((srt ns).map fun x => .flt (2 * x)))
  quant2 : ∀ ns : List Int, 2 ≤ ns.length → ns.length ≤ 8 → (∀ x ∈ ns, 0 ≤ x ∧ x ≤ 8) → Fn c n (.ref 84) [LI ns] [("n", .int 2)] (.list [.flt (midLow ns + midHigh ns)])
  quant2i : ∀ ns : List Int, 2 ≤ ns.length → ns.length ≤ 8 → (∀ x ∈ ns, 0 ≤ x ∧ x ≤ 8) → Fn c n (.ref 84) [LI ns] [("n", .int 2), ("method", .str "inclusive")] (.list [.flt (midLow ns + midHigh ns)])
  covI : ∀ (ps qs : List Int) (k : Int), (ps.length : Int) = k → (qs.length : Int) = k → 2 ≤ k → k ≤ 8 → (∀ x ∈ ps, 0 ≤ x ∧ x ≤ 8) → (∀ x ∈ qs, 0 ≤ x ∧ x ≤ 8) →
    Fn c n (.ref 91) [.list (ps.map fun p => .int (k * (k - 1) * p)), .list (qs.map fun q => .int (k * q))] [] (.flt (2 * bound ps qs))
  covF : ∀ (ps qs : List Int) (k : Int), (ps.length : Int) = k → (qs.length : Int) = k → 2 ≤ k → k ≤ 8 → (∀ x ∈ ps, 0 ≤ x ∧ x ≤ 8) → (∀ x ∈ qs, 0 ≤ x ∧ x ≤ 8) →
    Fn c n (.ref 91) [.list (ps.map fun p => .flt (k * (k - 1) * (2 * p))), .list (qs.map fun q => .flt (k * (2 * q)))] [] (.flt (2 * bound ps qs))
  bound : ∀ xs ys : List Int, (∀ x ∈ xs, 0 ≤ x ∧ x ≤ 1000) → (∀ x ∈ ys, 0 ≤ x ∧ x ≤ 1000) → xs.length ≤ 100 → ys.length ≤ 100 → Fn c n (.ref 129) [LI xs, LI ys] [] (.int (bound xs ys))
end
section
open PySem PySem.W PyProof.Rows
variable [Lo]
set_option maxRecDepth 100000
noncomputable def pick (l : List (List Nat)) (i : Int) : List Nat := l.getD (i % 4).toNat []
theorem pick_get (l : List (List Nat)) (i : Int) (hl : l.length = 4) : (l.map fun x => D.str (S x))[(i % 4).toNat]? = some (.str (S (pick l i))) := by
  have : (i % 4).toNat < l.length := by exact z240 hl
  rw [List.getElem?_map, List.getElem?_eq_getElem this]
  simp [pick, List.getD, List.getElem?_eq_getElem this]
section
variable {c : Cfg} {C : Addr} {n : Nat} {names : Names} {o : Own} {ρ : Vars} {cl : List Str} {N : Own → Vars → Prop} {R : D → Prop}
theorem Ev.lit {x : Str} {k : Nat} {pos : Pos} (l : List Nat) (h : x = S l := by decide +kernel) (hl : l.length ≤ lim := by decide) : Ev c n names o ρ (.Constant (.str x) k pos) (.str (S l)) := by
  subst h; exact Ev.str _ _ _ (by rw [S_len]; exact hl)
theorem Ev.cutT {x : Str} {xp p pos : Pos} {lower upper : Option Expr} {lo hi : Option Int} {l : List Nat} (h : Ev c n names o ρ (.Name x xp) (.str (S l))) (hl : Part c n names o ρ lower lo) (hu : Part c n names o ρ upper hi) :
    Ev c n names o ρ (.Subscript (.Name x xp) (.Slice lower upper none p) pos) (.str (S (slc lo hi l))) := by
  rw [← S_cut]; exact Ev.cutS h hl hu
/-- a comprehension of one source, assigned to a local name -/
theorem Ex1.aComp {x : Str} {px cpos pos : Pos} {elt target iter : Expr} {scope : Scope} {src : List D} (f : D → D)
    (hs : compOK names scope = true) (hsrc : Src c n names none ρ target iter src) (hbn : ∀ x ∈ binder target, scope.names.lookup x ≠ some .free) (hlen : src.length ≤ lim)
    (turn : ∀ d ∈ src, ∃ bs, Binds (relabelN names scope.names) (frees scope.names) target d bs ∧ Ev c n (relabelN names scope.names) none (bs ++ capt ρ scope.names) elt (f d))
    (hx : storable names cl x) (hN : N none ((x, .list (src.map f)) :: ρ))
    (hsw : ∀ env : Env, env.scope.names = names → env.scope.kind = .function → swapsWith (.ListComp elt [⟨target, iter, [], 0⟩] scope cpos) (some (.Name x px)) pos.line env = pure true) :
    Ex1 c n names cl none ρ (.Assign [.Name x px] (.ListComp elt [⟨target, iter, [], 0⟩] scope cpos) pos) N R := by
  rw [← gather_map f src] at hN
  refine Ex1.assignComp hs (by simp) hsrc hbn (by rw [gather_map, List.length_map]; exact hlen) (fun d hd => ?_) hx hN hsw
  obtain ⟨bs, h1, h2⟩ := turn d hd
  exact ⟨bs, h1, .nil, fun _ => Em.elt rfl h2⟩
end
end
section
open PySem PySem.W PyProof.Rows
variable [Lo]
set_option maxRecDepth 100000
noncomputable def bodyA : List Stmt := (bodyOf 17).take 23
noncomputable def cutOf (script : List Int) : List Int := (script.take 60).map (· % 800)
section
variable {c : Cfg} {C : Addr} {n : Nat} {N : Own → Vars → Prop} {R : D → Prop}
theorem clp_nat (n d k : Nat) : clp n d (some (k : Int)) = min k n := by
  unfold clp
  simp only
  rw [if_neg (Int.not_lt.mpr (Int.natCast_nonneg k))]
  rcases Nat.le_total k n with h | h
  · rw [Int.min_eq_left (Int.ofNat_le.mpr h), Nat.min_eq_left h, Int.max_eq_right (Int.natCast_nonneg _), Int.toNat_natCast]
  · rw [Int.min_eq_right (Int.ofNat_le.mpr h), Nat.min_eq_right h, Int.max_eq_right (Int.natCast_nonneg _), Int.toNat_natCast]
theorem slc_take {α : Type} (l : List α) (k : Nat) : slc none (some (k : Int)) l = l.take k := by
  unfold slc
  rw [clp_nat]
  show (l.drop 0).take (min k l.length - 0) = _
  rw [List.drop_zero, Nat.sub_zero, List.take_eq_take_iff, Nat.min_assoc, Nat.min_self]
theorem slc_drop {α : Type} (l : List α) (k : Nat) : slc (some (k : Int)) none l = l.drop k := by
  unfold slc
  rw [clp_nat]
  show (l.drop (min k l.length)).take (l.length - min k l.length) = _
  rcases Nat.le_total l.length k with h | h
  · rw [List.drop_of_length_le (Nat.le_min.mpr ⟨h, Nat.le_refl _⟩), List.drop_of_length_le h]; try simp
  · rw [List.take_of_length_le (by simp), Nat.min_eq_left h]
theorem slc_mid {α : Type} (l : List α) (i k : Nat) : slc (some (i : Int)) (some (k : Int)) l = (l.drop i).take (k - i) := by
  unfold slc
  rw [clp_nat, clp_nat]
  rcases Nat.le_total l.length i with h | h
  · rw [List.drop_of_length_le (Nat.le_min.mpr ⟨h, Nat.le_refl _⟩), List.drop_of_length_le h]; try simp
  · rw [Nat.min_eq_left h, List.take_eq_take_iff, List.length_drop, Nat.sub_min_sub_right, Nat.sub_min_sub_right, Nat.min_assoc, Nat.min_self]
theorem lawA1 (G : Globs c C) (Fs : Fns c n) (script : List Int) (hN : ∀ ρ, Sub [("cut", LI (cutOf script)), ("text", .str (S (textL (cutOf script)))), ("draws", LI (drawsTo (cutOf script) (cutOf script).length))] ρ → Ex c n (namesOf 17) [] none ρ (bodyA.drop 3) N R) :
    Ex c n (namesOf 17) [] none [("script", LI script)] bodyA N R := by
  have h60 : (cutOf script).length ≤ 60 := by simp [cutOf]; exact z391
  have e0 : LI (cutOf script) = .list (((script.take 60).map D.int).map fun d => match d with | .int x => .int (x % 800) | d => d) := by
    simp only [cutOf, LI, List.map_map, Function.comp_def]
  have hs : slc none (some 60) (script.map D.int) = (script.take 60).map D.int := by
    rw [show (60 : Int) = ((60 : Nat) : Int) from rfl, slc_take, List.map_take]
  refine Ex.cons (Ex1.aComp (src := (script.take 60).map D.int) (fun d => match d with | .int x => .int (x % 800) | d => d) (by decide +kernel) (Src.list ?_) (by decide +kernel) (by simp [lim]; exact z358) (fun d hd => ?_) (by walk_at "store") ?_ (by intro env hn hk; obtain ⟨⟨_, _, _, _, _⟩⟩ := env; cases hn; cases hk; with_unfolding_all rfl))
  · rw [← hs]
    exact Ev.cutL (by walk_at "ev") .none (.some (by walk_at "ev"))
  · obtain ⟨a, _, rfl⟩ := List.mem_map.mp hd
    exact ⟨_, Binds.name _ _ _ (.inl (by with_unfolding_all rfl)) (by decide +kernel), by walk_at "ev"⟩
  rw [← e0]
  generalize cutOf script = cut at *
  refine Ex.cons (Ex1.assign (d := .str (S (textL cut))) ?_ (by walk_at "store") ?_ no_own (by intro env _ _; rfl))
  · walk_at "ev"
    exact Fs.text _ (by exact z425 h60)
  refine Ex.cons (Ex1.assign (d := LI (drawsTo cut cut.length)) ?_ (by walk_at "store") ?_ no_own (by intro env _ _; rfl))
  · walk_at "ev"
    exact Fs.draws _ (by exact z425 h60)
  exact hN _ (by walk_at "sub")
end
end
section
open PySem PySem.W PyProof.Rows
variable [Lo]
set_option maxRecDepth 100000
section
variable {c : Cfg} {C : Addr} {n : Nat} {N : Own → Vars → Prop} {R : D → Prop}
noncomputable def frontL (T : List Nat) (dr : List Int) : List Nat := pick [T.take 1, [], T.take 2, [97]] (at' dr 0)
noncomputable def endL (T : List Nat) (dr : List Int) : List Nat := pick [T.drop 7, [], T.drop 6, [97]] (at' dr 1)
noncomputable def midL (T F E : List Nat) : List Nat := (T.drop F.length).take (8 - E.length - F.length)
noncomputable def p0L (m : List Nat) (dr : List Int) : List Nat := pick [m.take 1, [98], m.take 2, [97, 98]] (at' dr 2)
noncomputable def p1L (m : List Nat) (dr : List Int) : List Nat := pick [[98], (m.drop 2).take 1, [98, 98], []] (at' dr 3)
noncomputable def p2L (m : List Nat) (dr : List Int) : List Nat := pick [[97], (m.drop 3).take 1, [97, 98], m.drop (m.length - 1)] (at' dr 4)
theorem pick_any {P : List Nat → Prop} {a b c d : List Nat} (i : Int) (ha : P a) (hb : P b) (hc : P c) (hd : P d) : P (pick [a, b, c, d] i) := by
  unfold pick
  have h : (i % 4).toNat < 4 := (Int.toNat_lt (Int.emod_nonneg _ (by decide))).mpr (Int.emod_lt_of_pos _ (by decide))
  match (i % 4).toNat, h with
  | 0, _ => exact ha
  | 1, _ => exact hb
  | 2, _ => exact hc
  | 3, _ => exact hd
theorem frontL_len (T : List Nat) (dr : List Int) : (frontL T dr).length ≤ 2 := pick_any (P := fun l => l.length ≤ 2) _ (by simp; exact z392) (by simp) (by simp; exact z393) (by simp)
theorem endL_len (T : List Nat) (dr : List Int) (h : T.length = 8) : (endL T dr).length ≤ 2 := pick_any (P := fun l => l.length ≤ 2) _ (by simp; exact z528 h) (by simp) (by simp; exact z515 h) (by simp)
theorem slc_last {α : Type} (l : List α) : slc (some (-1)) none l = l.drop (l.length - 1) := by
  have : clp l.length 0 (some (-1)) = l.length - 1 := by unfold clp; simp only; rw [if_pos (by decide)]; exact z10
  unfold slc
  rw [this, List.take_of_length_le]
  show _ ≤ l.length - (l.length - 1)
  simp <;> omega
/-- the draws' item by a written place -/
theorem Ev.draw {names : Names} {ρ : Vars} {dp ip sp : Pos} {dr : List Int} {i : Int} (h : Ev c n names none ρ (.Name "draws" dp) (LI dr)) (h0 : 0 ≤ i) (h1 : i < dr.length) :
    Ev c n names none ρ (.Subscript (.Name "draws" dp) (.Constant (.int i) 0 ip) sp) (.int (at' dr i)) :=
  Ev.item h (Ev.int _ _ _) (Got.list _ _ _ h0 (ints_get dr i h0 h1))
theorem lawA2 (G : Globs c C) (T : List Nat) (dr : List Int) (hT : T.length = 8) (hd : dr.length = 5) (F E : List Nat) (hF : F = frontL T dr) (hE : E = endL T dr) (ρ : Vars) (x0 : D)
    (hS : Sub [("cut", x0), ("text", .str (S T)), ("draws", LI dr)] ρ)
    (hN : ∀ ρ, Sub [("cut", x0), ("text", .str (S T)), ("draws", LI dr), ("front", .str (S F)), ("end", .str (S E)), ("first", .int F.length), ("stop", .int (8 - E.length)), ("middle", .str (S (midL T F E)))] ρ → Ex c n (namesOf 17) [] none ρ (bodyA.drop 7) N R) :
    Ex c n (namesOf 17) [] none ρ (bodyA.drop 3) N R := by
  refine Ex.sub hS ?_
  have t1 : slc none (some (1 : Int)) T = T.take 1 := slc_take T 1
  have t2 : slc none (some (2 : Int)) T = T.take 2 := slc_take T 2
  have t7 : slc (some (7 : Int)) none T = T.drop 7 := slc_drop T 7
  have t6 : slc (some (6 : Int)) none T = T.drop 6 := slc_drop T 6
  have hF2 : F.length ≤ 2 := by rw [hF]; exact frontL_len T dr
  have hE2 : E.length ≤ 2 := by rw [hE]; exact endL_len T dr hT
  refine Ex.cons (Ex1.assign (d := .str (S F)) ?_ (by walk_at "store") ?_ no_own (by intro env _ _; rfl))
  · refine Ev.item (d₁ := .list [.str (S (T.take 1)), .str (S []), .str (S (T.take 2)), .str (S [97])]) (d₂ := .int (at' dr 0 % 4)) (Ev.list (Evs.cons ?_ (Evs.cons (Ev.lit []) (Evs.cons ?_ (Evs.cons (Ev.lit [97]) Evs.nil)))) (by simp [lim])) (Ev.bin (Ev.draw (by walk_at "ev") (by decide) (by exact z510 hd)) (by walk_at "ev") (Op2.imod _ _ (by decide) (by decide))) (Got.list _ _ _ (by exact z357) ?_)
    · rw [← t1]; exact Ev.cutT (by walk_at "ev") .none (.some (by walk_at "ev"))
    · rw [← t2]; exact Ev.cutT (by walk_at "ev") .none (.some (by walk_at "ev"))
    · rw [hF]; exact pick_get [T.take 1, [], T.take 2, [97]] _ rfl
  refine Ex.cons (Ex1.assign (d := .str (S E)) ?_ (by walk_at "store") ?_ no_own (by intro env _ _; rfl))
  · refine Ev.item (d₁ := .list [.str (S (T.drop 7)), .str (S []), .str (S (T.drop 6)), .str (S [97])]) (d₂ := .int (at' dr 1 % 4)) (Ev.list (Evs.cons ?_ (Evs.cons (Ev.lit []) (Evs.cons ?_ (Evs.cons (Ev.lit [97]) Evs.nil)))) (by simp [lim])) (Ev.bin (Ev.draw (by walk_at "ev") (by decide) (by exact z508 hd)) (by walk_at "ev") (Op2.imod _ _ (by decide) (by decide))) (Got.list _ _ _ (by exact z357) ?_)
    · rw [← t7]; exact Ev.cutT (by walk_at "ev") (.some (by walk_at "ev")) .none
    · rw [← t6]; exact Ev.cutT (by walk_at "ev") (.some (by walk_at "ev")) .none
    · rw [hE]; exact pick_get [T.drop 7, [], T.drop 6, [97]] _ rfl
  have lF : Fn c n (.builtin "len") [.str (S F)] [] (.int F.length) := by have := Fn.lenS (c := c) (n := n) (S F); rwa [S_len] at this
  have lE : Fn c n (.builtin "len") [.str (S E)] [] (.int E.length) := by have := Fn.lenS (c := c) (n := n) (S E); rwa [S_len] at this
  refine Ex.cons (Ex1.assign2 (d₁ := .int F.length) (d₂ := .int (8 - E.length)) (Ev.tup (Evs.cons (Ev.call (by walk_at "ev") (by walk_at "ev") (by walk_at "ev") lF) (Evs.cons (Ev.bin (by walk_at "ev") (Ev.call (by walk_at "ev") (by walk_at "ev") (by walk_at "ev") lE) (Op2.isub _ _)) Evs.nil)) (by simp [lim])) (by walk_at "store") (by walk_at "store") ?_ no_own no_own (by rfl) (by intro env hn hk; obtain ⟨⟨_, _, _, _, _⟩⟩ := env; cases hn; cases hk; with_unfolding_all rfl))
  refine Ex.cons (Ex1.assign (d := .str (S (midL T F E))) ?_ (by walk_at "store") ?_ no_own (by intro env _ _; rfl))
  · have : midL T F E = slc (some (F.length : Int)) (some (8 - E.length : Int)) T := by
      rw [show (8 - (E.length : Int)) = ((8 - E.length : Nat) : Int) by exact z172 hE2, slc_mid]; rfl
    rw [this]
    exact Ev.cutT (by walk_at "ev") (.some (by walk_at "ev")) (.some (by walk_at "ev"))
  exact hN _ (by walk_at "sub")
end
end
section
open PySem PySem.W PyProof.Rows
variable [Lo]
set_option maxRecDepth 100000
section
variable {c : Cfg} {C : Addr} {n : Nat} {N : Own → Vars → Prop} {R : D → Prop}
theorem p0L_len (m : List Nat) (dr : List Int) : (p0L m dr).length ≤ 2 := pick_any (P := fun l => l.length ≤ 2) _ (by simp; exact z392) (by simp) (by simp; exact z393) (by simp)
theorem p1L_len (m : List Nat) (dr : List Int) : (p1L m dr).length ≤ 2 := pick_any (P := fun l => l.length ≤ 2) _ (by simp) (by simp; exact z381) (by simp) (by simp)
theorem p2L_len (m : List Nat) (dr : List Int) : (p2L m dr).length ≤ 2 := pick_any (P := fun l => l.length ≤ 2) _ (by simp) (by simp; exact z378) (by simp) (by simp; exact z323)
theorem lawA3 (G : Globs c C) (m : List Nat) (dr : List Int) (hd : dr.length = 5) (P0 P1 P2 : List Nat) (h0 : P0 = p0L m dr) (h1 : P1 = p1L m dr) (h2 : P2 = p2L m dr) (ρ ρ₁ : Vars) (hρ : Sub ρ₁ ρ) (hdr : ρ₁.lookup ("draws" : Str) = some (LI dr)) (hm : ρ.lookup ("middle" : Str) = some (D.str (S m))) (hx : ρ₁.lookup ("pieces" : Str) = none)
    (hN : ∀ ρ, Sub (("pieces", .list [.str (S P0), .str (S P1), .str (S P2)]) :: ρ₁) ρ → Ex c n (namesOf 17) [] none ρ (bodyA.drop 8) N R) :
    Ex c n (namesOf 17) [] none ρ (bodyA.drop 7) N R := by
  have hdr' := hρ _ _ hdr
  have t1 : slc none (some (1 : Int)) m = m.take 1 := slc_take m 1
  have t2 : slc none (some (2 : Int)) m = m.take 2 := slc_take m 2
  have t3 : slc (some (2 : Int)) (some (3 : Int)) m = (m.drop 2).take 1 := slc_mid m 2 3
  have t4 : slc (some (3 : Int)) (some (4 : Int)) m = (m.drop 3).take 1 := slc_mid m 3 4
  have t5 : slc (some (-1 : Int)) none m = m.drop (m.length - 1) := slc_last m
  have em : ∀ p, Ev c n (namesOf 17) none ρ (.Name "middle" p) (.str (S m)) := fun p => Ev.name hm (by decide +kernel)
  have ed : ∀ p, Ev c n (namesOf 17) none ρ (.Name "draws" p) (LI dr) := fun p => Ev.name hdr' (by decide +kernel)
  refine Ex.cons (Ex1.assign (d := .list [.str (S P0), .str (S P1), .str (S P2)]) (Ev.list (Evs.cons ?_ (Evs.cons ?_ (Evs.cons ?_ Evs.nil))) (by simp [lim])) (by walk_at "store") ?_ no_own (by intro env _ _; rfl))
  · refine Ev.item (d₁ := .list [.str (S (m.take 1)), .str (S [98]), .str (S (m.take 2)), .str (S [97, 98])]) (d₂ := .int (at' dr 2 % 4)) (Ev.list (Evs.cons ?_ (Evs.cons (Ev.lit [98]) (Evs.cons ?_ (Evs.cons (Ev.lit [97, 98]) Evs.nil)))) (by simp [lim])) (Ev.bin (Ev.draw (ed _) (by decide) (by exact z525 hd)) (by walk_at "ev") (Op2.imod _ _ (by decide) (by decide))) (Got.list _ _ _ (by exact z357) ?_)
    · rw [← t1]; exact Ev.cutT (em _) .none (.some (by walk_at "ev"))
    · rw [← t2]; exact Ev.cutT (em _) .none (.some (by walk_at "ev"))
    · rw [h0]; exact pick_get [m.take 1, [98], m.take 2, [97, 98]] _ rfl
  · refine Ev.item (d₁ := .list [.str (S [98]), .str (S ((m.drop 2).take 1)), .str (S [98, 98]), .str (S [])]) (d₂ := .int (at' dr 3 % 4)) (Ev.list (Evs.cons (Ev.lit [98]) (Evs.cons ?_ (Evs.cons (Ev.lit [98, 98]) (Evs.cons (Ev.lit []) Evs.nil)))) (by simp [lim])) (Ev.bin (Ev.draw (ed _) (by decide) (by exact z526 hd)) (by walk_at "ev") (Op2.imod _ _ (by decide) (by decide))) (Got.list _ _ _ (by exact z357) ?_)
    · rw [← t3]; exact Ev.cutT (em _) (.some (by walk_at "ev")) (.some (by walk_at "ev"))
    · rw [h1]; exact pick_get [[98], (m.drop 2).take 1, [98, 98], []] _ rfl
  · refine Ev.item (d₁ := .list [.str (S [97]), .str (S ((m.drop 3).take 1)), .str (S [97, 98]), .str (S (m.drop (m.length - 1)))]) (d₂ := .int (at' dr 4 % 4)) (Ev.list (Evs.cons (Ev.lit [97]) (Evs.cons ?_ (Evs.cons (Ev.lit [97, 98]) (Evs.cons ?_ Evs.nil)))) (by simp [lim])) (Ev.bin (Ev.draw (ed _) (by decide) (by exact z527 hd)) (by walk_at "ev") (Op2.imod _ _ (by decide) (by decide))) (Got.list _ _ _ (by exact z357) ?_)
    · rw [← t4]; exact Ev.cutT (em _) (.some (by walk_at "ev")) (.some (by walk_at "ev"))
    · rw [← t5]; exact Ev.cutT (em _) (.some (by walk_at "ev")) .none
    · rw [h2]; exact pick_get [[97], (m.drop 3).take 1, [97, 98], m.drop (m.length - 1)] _ rfl
  refine hN _ fun x d h => ?_
  rw [List.lookup_cons] at h ⊢
  cases hb : x == ("pieces" : Str) with
  | true => rw [hb] at h; exact h
  | false => rw [hb] at h; exact hρ _ _ h
theorem lawA4 (G : Globs c C) (F E P0 P1 P2 : List Nat) (lF : F.length ≤ 2) (lE : E.length ≤ 2) (l0 : P0.length ≤ 2) (l1 : P1.length ≤ 2) (l2 : P2.length ≤ 2) (ρ ρ₁ : Vars) (hρ : Sub ρ₁ ρ)
    (hF : ρ₁.lookup ("front" : Str) = some (D.str (S F))) (hE : ρ₁.lookup ("end" : Str) = some (D.str (S E))) (hp : ρ₁.lookup ("pieces" : Str) = some (D.list [D.str (S P0), D.str (S P1), D.str (S P2)]))
    (hN : ∀ ρ, Sub (("sizes", LI [P0.length, P1.length, P2.length]) :: ("want", .str (S (joinL dots (F :: ([P0, P1, P2] ++ [E]))))) :: ρ₁) ρ → Ex c n (namesOf 17) [] none ρ (bodyA.drop 10) N R) :
    Ex c n (namesOf 17) [] none ρ (bodyA.drop 8) N R := by
  have hj := S_join dots (F :: ([P0, P1, P2] ++ [E]))
  have hlen := joinL_len dots 2 (F :: ([P0, P1, P2] ++ [E])) (by intro l hl; simp at hl; rcases hl with rfl | rfl | rfl | rfl | rfl <;> assumption)
  have hm := Mt.join (c := c) (n := n) (S dots) ((F :: ([P0, P1, P2] ++ [E])).map S) (joinOk _ _ 2 (by intro l hl; simp at hl; rcases hl with rfl | rfl | rfl | rfl | rfl <;> assumption) (by simp [dots])) (by rw [hj, S_len]; refine Nat.le_trans hlen ?_; simp [dots, lim])
  rw [hj] at hm
  have eF : ∀ p, Ev c n (namesOf 17) none ρ (.Name "front" p) (.str (S F)) := fun p => Ev.name (hρ _ _ hF) (by decide +kernel)
  have eE : ∀ p, Ev c n (namesOf 17) none ρ (.Name "end" p) (.str (S E)) := fun p => Ev.name (hρ _ _ hE) (by decide +kernel)
  have eP : ∀ p, Ev c n (namesOf 17) none ρ (.Name "pieces" p) (.list [.str (S P0), .str (S P1), .str (S P2)]) := fun p => Ev.name (hρ _ _ hp) (by decide +kernel)
  obtain ⟨q, hq⟩ : ∃ q, q = D.str (S (joinL dots (F :: ([P0, P1, P2] ++ [E])))) := ⟨_, rfl⟩
  rw [← hq] at hm hN
  refine Ex.cons ?_
  with_reducible refine Ex1.assign (d := q) ?e ?s ?rest no_own ?w
  case s => walk_at "store"
  case w => intro env _ _; with_unfolding_all rfl
  case e =>
    have hm' : Mt c n "join" (.str (S dots)) [.list ([.str (S F)] ++ [.str (S P0), .str (S P1), .str (S P2)] ++ [.str (S E)])] q := hm
    with_reducible refine Ev.meth (d₀ := .str (S dots)) (ds := [.list ([.str (S F)] ++ [.str (S P0), .str (S P1), .str (S P2)] ++ [.str (S E)])]) ?hb (Evs.cons (he := ?st) ?hx Evs.nil) hm' ?hd ?ns ?ln ?po ?ab
    case hd => intro _ h; cases h
    case st => with_unfolding_all rfl
    case ns => with_unfolding_all rfl
    case ln => simp
    case po => with_unfolding_all rfl
    case ab => intro _; with_unfolding_all rfl
    case hb => exact Ev.lit dots
    exact Ev.bin (Ev.bin (Ev.list (Evs.cons (eF _) Evs.nil) (by simp [lim])) (eP _) (Op2.ladd _ _ (by simp [lim]))) (Ev.list (Evs.cons (eE _) Evs.nil) (by simp [lim])) (Op2.ladd _ _ (by simp [lim]))
  have hlS : ∀ l : List Nat, Fn c n (.builtin "len") [.str (S l)] [] (.int l.length) := fun l => by have := Fn.lenS (c := c) (n := n) (S l); rwa [S_len] at this
  have es : LI [(P0.length : Int), P1.length, P2.length] = .list (([P0, P1, P2].map fun l => D.str (S l)).map fun d => match d with | .str x => .int x.length | d => d) := by simp [S_len]
  refine Ex.cons (Ex1.assign (d := LI [P0.length, P1.length, P2.length]) ?_ (by walk_at "store") ?_ no_own (by intro env hn hk; obtain ⟨⟨_, _, _, _, _⟩⟩ := env; cases hn; cases hk; with_unfolding_all rfl))
  · rw [es]
    refine Ev.comp1 _ (by decide +kernel) (Src.list ?_) (by decide +kernel) (by simp [lim]) fun d hd => ?_
    · refine Ev.name ?_ (by decide +kernel)
      rw [List.lookup_cons]
      exact hρ _ _ hp
    · obtain ⟨l, _, rfl⟩ := List.mem_map.mp hd
      refine ⟨_, Binds.name _ _ _ (.inl (by with_unfolding_all rfl)) (by decide +kernel), ?_⟩
      have := Fn.lenS (c := c) (n := n) (S l)
      exact Ev.call (by walk_at "ev") (by walk_at "ev") (by walk_at "ev") this
  refine hN _ fun x d h => ?_
  rw [List.lookup_cons] at h ⊢
  cases hb : x == ("sizes" : Str) with
  | true => rw [hb] at h; exact h
  | false =>
    rw [hb] at h
    rw [List.lookup_cons] at h ⊢
    cases hb' : x == ("want" : Str) with
    | true => rw [hb'] at h; exact h
    | false => rw [hb'] at h; exact hρ _ _ h
end
end
section
open PySem PySem.W PyProof.Rows
variable [Lo]
set_option maxRecDepth 100000
theorem rng_mem' {a b v : Int} : v ∈ rng a b ↔ a ≤ v ∧ v < b := by
  refine ⟨rng_mem, fun ⟨h1, h2⟩ => ?_⟩
  unfold rng
  rw [List.mem_map]
  exact ⟨(v - a).toNat, by rw [List.mem_range]; exact z102 ‹_›, by exact z183 ‹_›⟩
theorem rowsOf_mem {f a b c s : Int} {row : List Int} : row ∈ rowsOf f a b c s ↔ ∃ p q r, row = [p, q, r] ∧ f ≤ p ∧ p + (a + b + c) ≤ s ∧ p + a ≤ q ∧ q + (b + c) ≤ s ∧ q + b ≤ r ∧ r + c ≤ s := by
  unfold rowsOf rowsQ rowsR
  simp only [List.mem_flatMap, List.mem_map, rng_mem']
  constructor
  · rintro ⟨p, hp, q, hq, r, hr, rfl⟩
    exact ⟨p, q, r, rfl, by exact z482 hp, by exact z290 hp, by exact z366 hq, by exact z259 hq, by exact z344 hr, by exact z297 hr⟩
  · rintro ⟨p, q, r, rfl, h1, h2, h3, h4, h5, h6⟩
    exact ⟨p, by exact z219 h2 h1, q, by exact z157 h4 h3, r, by exact z165 h5 h6, rfl⟩
/-- the places' pieces -/
noncomputable def cutsAt (T : List Nat) (row sizes : List Int) : List (List Nat) := (row.zip sizes).map fun p => slc (some p.1) (some (p.1 + p.2)) T
noncomputable def heldB (T F E : List Nat) : Bool := decide (slc none (some (F.length : Int)) T = F) && decide (slc (some (8 - E.length : Int)) none T = E)
noncomputable def toldB (T F E : List Nat) (ps : List (List Nat)) (row : List Int) : Bool := heldB T F E && decide (cutsAt T row (ps.map fun p => (p.length : Int)) = ps)
noncomputable def unI : D → List Int
  | .list ds => ds.map fun d => match d with | .int i => i | _ => 0
  | _ => []
theorem unI_LI (row : List Int) : unI (LI row) = row := by simp [unI, Function.comp_def]
theorem kins_bool (n : Nat) (bs cs : List Bool) : Kins n (bs.map .bool) (cs.map .bool) := kins_of n _ _ (fun _ _ => .bb n _ _) bs cs
theorem deq_bool (bs : List Bool) : deq (.list (bs.map .bool)) (.list (bs.map .bool)) = true := deq_map _ _ _ fun b => beq_self_eq_true b
theorem kins_str (n : Nat) (xs ys : List (List Nat)) : Kins n (xs.map fun l => .str (S l)) (ys.map fun l => .str (S l)) := kins_of n _ _ (fun _ _ => .ss n _ _) xs ys
theorem S_beq (a b : List Nat) : (S a == S b) = decide (a = b) := by
  by_cases h : a = b
  · subst h; simp
  · rw [decide_eq_false h]
    exact beq_eq_false_iff_ne.mpr fun e => h (S_inj e)
theorem deqs_str : ∀ xs ys : List (List Nat), xs.length = ys.length → deqs (xs.map fun l => .str (S l)) (ys.map fun l => .str (S l)) = decide (xs = ys) := by
  intro xs
  induction xs with
  | nil =>
    intro ys
    cases ys with
    | nil => exact fun _ => rfl
    | cons y ys => exact fun h => absurd h (Nat.succ_ne_zero _).symm
  | cons x xs ih =>
    intro ys
    cases ys with
    | nil => exact fun h => absurd h (Nat.succ_ne_zero _)
    | cons y ys =>
      intro h
      rw [List.map_cons, List.map_cons, deqs_cons, ih ys (Nat.succ.inj h)]
      show (S x == S y && _) = _
      rw [S_beq, ← Bool.decide_and]
      exact decide_eq_decide.mpr (Iff.of_eq (List.cons.injEq x xs y ys)).symm
theorem deq_str (xs ys : List (List Nat)) : deq (.list (xs.map fun l => .str (S l))) (.list (ys.map fun l => .str (S l))) = decide (xs = ys) := by
  by_cases h : xs.length = ys.length
  · rw [deq_eq (by rw [List.length_map, List.length_map, h]), deqs_str xs ys h]
  · rw [deq_len (by rw [List.length_map, List.length_map]; exact h), decide_eq_false fun e => h (by rw [e])]
section
variable {c : Cfg} {C : Addr} {n : Nat} {N : Own → Vars → Prop} {R : D → Prop}
noncomputable def vA (x0 : D) (T : List Nat) (dr : List Int) (F E P0 P1 P2 : List Nat) : Vars :=
  [("sizes", LI [P0.length, P1.length, P2.length]), ("want", .str (S (joinL dots (F :: ([P0, P1, P2] ++ [E]))))), ("pieces", .list [.str (S P0), .str (S P1), .str (S P2)]),
    ("cut", x0), ("text", .str (S T)), ("draws", LI dr), ("front", .str (S F)), ("end", .str (S E)), ("first", .int F.length), ("stop", .int (8 - E.length))]
theorem lawA_in (G : Globs c C) (Fs : Fns c n) (script : List Int) (T : List Nat) (dr : List Int) (F E P0 P1 P2 : List Nat) (hT : T = textL (cutOf script)) (hdr : dr = drawsTo (cutOf script) (cutOf script).length)
    (hF : F = frontL T dr) (hE : E = endL T dr) (h0 : P0 = p0L (midL T F E) dr) (h1 : P1 = p1L (midL T F E) dr) (h2 : P2 = p2L (midL T F E) dr)
    (hN : ∀ ρ, Sub (vA (LI (cutOf script)) T dr F E P0 P1 P2) ρ → Ex c n (namesOf 17) [] none ρ (bodyA.drop 10) N R) : Ex c n (namesOf 17) [] none [("script", LI script)] bodyA N R := by
  refine lawA1 G Fs script fun ρ hρ => ?_
  rw [← hT, ← hdr] at hρ
  have h8 : T.length = 8 := by rw [hT]; exact textL_len _
  have h5 : dr.length = 5 := by rw [hdr]; exact drawsTo_len _ _
  refine lawA2 G T dr h8 h5 F E hF hE ρ _ hρ fun ρ hρ => ?_
  refine lawA3 G (midL T F E) dr h5 P0 P1 P2 h0 h1 h2 ρ [("cut", LI (cutOf script)), ("text", .str (S T)), ("draws", LI dr), ("front", .str (S F)), ("end", .str (S E)), ("first", .int F.length), ("stop", .int (8 - E.length))] ?_ (by with_unfolding_all rfl) (hρ _ _ (by with_unfolding_all rfl)) (by with_unfolding_all rfl) fun ρ hρ => ?_
  · intro x d h
    refine hρ x d ?_
    revert h
    generalize D.str (S (midL T F E)) = q
    simp only [List.lookup_cons, List.lookup_nil]
    repeat' split
    all_goals simp
  · exact lawA4 G F E P0 P1 P2 (by rw [hF]; exact frontL_len _ _) (by rw [hE]; exact endL_len _ _ h8) (by rw [h0]; exact p0L_len _ _) (by rw [h1]; exact p1L_len _ _) (by rw [h2]; exact p2L_len _ _) ρ _ hρ (by with_unfolding_all rfl) (by with_unfolding_all rfl) (by with_unfolding_all rfl) hN
end
end
section
open PySem PySem.W PyProof.Rows
variable [Lo]
set_option maxRecDepth 100000
theorem rowsOf_len {f a b c s : Int} (hf : 0 ≤ f) (hs : s ≤ 8) (ha : 0 ≤ a) (hb : 0 ≤ b) (hc : 0 ≤ c) : (rowsOf f a b c s).length ≤ 729 := by
  unfold rowsOf
  refine Nat.le_trans (flat_len _ 81 _ fun p hp => ?_) ?_
  · have hp := rng_mem hp
    unfold rowsQ
    refine Nat.le_trans (flat_len _ 9 _ fun q hq => ?_) ?_
    · have hq := rng_mem hq
      unfold rowsR
      rw [List.length_map, rng_length]; exact z25 hq hf ha hb hc hp hs
    · rw [rng_length]; exact z54 hf ha hb hc hp hs
  · rw [rng_length]; exact z101 hf ha hb hc hs
theorem rowsOf_in {f a b c s : Int} (hf : 0 ≤ f) (hs : s ≤ 8) (ha : 0 ≤ a) (hb : 0 ≤ b) (hc : 0 ≤ c) {row : List Int} (h : row ∈ rowsOf f a b c s) : row.length = 3 ∧ ∀ x ∈ row, 0 ≤ x ∧ x ≤ 8 := by
  obtain ⟨p, q, r, rfl, h1, h2, h3, h4, h5, h6⟩ := rowsOf_mem.mp h
  refine ⟨rfl, fun x hx => ?_⟩
  simp at hx
  rcases hx with rfl | rfl | rfl <;> (first | exact z45 hf ha hb hc h2 h4 h3 hs h1 | exact z63 hf ha hb hc h3 h5 h6 hs h1 | exact z97 hf ha hb hc h2 hs h1)
theorem zip_told (rows : List (List Int)) (g : List Int → Bool) : List.zipWith (fun a b => D.tup [a, b]) (rows.map LI) (rows.map fun r => .bool (g r)) = rows.map fun r => D.tup [LI r, .bool (g r)] := by
  rw [List.zipWith_map, List.zipWith_self]
noncomputable def keepP : D → Bool
  | .tup [_, .bool b] => b
  | _ => false
noncomputable def fstP : D → D
  | .tup [a, _] => a
  | d => d
theorem kept (rows : List (List Int)) (g : List Int → Bool) : ((rows.map fun r => D.tup [LI r, .bool (g r)]).filter keepP).map fstP = (rows.filter g).map LI := by
  rw [List.filter_map, List.map_map]
  rfl
theorem ne_nil (xs : List D) : (!deq (.list xs) (.list [])) = decide (xs ≠ []) := by rw [deq_nil]; exact decide_not.symm
section
variable {c : Cfg} {C : Addr} {n : Nat} {N : Own → Vars → Prop} {R : D → Prop}
theorem lawA5 (G : Globs c C) (Fs : Fns c n) (x0 : D) (T : List Nat) (dr : List Int) (F E P0 P1 P2 : List Nat) (hT : T.length = 8) (lF : F.length ≤ 2) (lE : E.length ≤ 2) (l0 : P0.length ≤ 2) (l1 : P1.length ≤ 2) (l2 : P2.length ≤ 2)
    (dF : 46 ∉ F) (dE : 46 ∉ E) (d0 : 46 ∉ P0) (d1 : 46 ∉ P1) (d2 : 46 ∉ P2) (rows : List (List Int)) (hrows : rows = rowsOf F.length P0.length P1.length P2.length (8 - E.length))
    (hM : ∀ row ∈ rows, (toldB T F E [P0, P1, P2] row = true ↔ Fits F [P0, P1, P2] E (blotOf T row F.length [(P0.length : Int), P1.length, P2.length] (8 - E.length))))
    (ways : List (List Int)) (hways : ways = rows.filter (toldB T F E [P0, P1, P2])) (hW : ways ≠ [] ↔ Fits F [P0, P1, P2] E T) (ρ : Vars) (hρ : Sub (vA x0 T dr F E P0 P1 P2) ρ)
    (hN : ∀ ρ, Sub (("taken", .bool (decide (ways ≠ []))) :: ("ways", .list (ways.map LI)) :: ("told", .list (rows.map fun r => .bool (toldB T F E [P0, P1, P2] r))) :: ("rows", .list (rows.map LI)) :: vA x0 T dr F E P0 P1 P2) ρ → Ex c n (namesOf 17) [] none ρ (bodyA.drop 14) N R) :
    Ex c n (namesOf 17) [] none ρ (bodyA.drop 10) N R := by
  refine Ex.sub hρ ?_
  have hsz : LI [(P0.length : Int), P1.length, P2.length] = LI ([P0, P1, P2].map fun p => (p.length : Int)) := rfl
  have hr := rowsOf_len (f := F.length) (a := P0.length) (b := P1.length) (c := P2.length) (s := 8 - E.length) (by exact z384 lF) (by exact z437 lE) (by exact z384 l0) (by exact z384 l1) (by exact z384 l2)
  rw [← hrows] at hr
  refine Ex.cons (Ex1.assign (d := .list (rows.map LI)) ?_ (by walk_at "store") ?_ no_own (by intro env _ _; rfl))
  · rw [hrows]
    walk_at "ev"
    exact Fs.rows _ _ _ _ _ (by exact z303 lF) (by exact z337 lE) (by exact z303 l0) (by exact z303 l1) (by exact z303 l2)
  have et : D.list (rows.map fun r => .bool (toldB T F E [P0, P1, P2] r)) = .list ((rows.map LI).map fun d => .bool (toldB T F E [P0, P1, P2] (unI d))) := by
    rw [List.map_map]; congr 1; apply List.map_congr_left; intro r _; simp only [Function.comp_def, unI_LI]
  refine Ex.cons (Ex1.aComp (src := rows.map LI) (fun d => .bool (toldB T F E [P0, P1, P2] (unI d))) (by decide +kernel) (Src.list (by walk_at "ev")) (by decide +kernel) (by rw [List.length_map]; simp only [lim]; exact z422 hr) (fun d hd => ?_) (by walk_at "store") ?_ (by intro env hn hk; obtain ⟨⟨_, _, _, _, _⟩⟩ := env; cases hn; cases hk; with_unfolding_all rfl))
  · obtain ⟨row, hrow, rfl⟩ := List.mem_map.mp hd
    have hin := hrow
    rw [hrows] at hin
    have hin := rowsOf_in (by exact z384 lF) (by exact z437 lE) (by exact z384 l0) (by exact z384 l1) (by exact z384 l2) hin
    refine ⟨_, Binds.name _ _ _ (.inl (by with_unfolding_all rfl)) (by decide +kernel), ?_⟩
    rw [unI_LI]
    refine Ev.call (f := .ref 49) (ds := [.str (S (joinL dots (F :: ([P0, P1, P2] ++ [E])))), .str (S (blotOf T row F.length [(P0.length : Int), P1.length, P2.length] (8 - E.length)))]) (ks := []) (by walk_at "ev") (Evs.cons (by walk_at "ev") (Evs.cons (Ev.call (f := .ref 117) (ds := [.str (S T), LI row, .int F.length, LI [(P0.length : Int), P1.length, P2.length], .int (8 - E.length)]) (ks := []) (by walk_at "ev") (by walk_at "ev") (by walk_at "ev") ?_) Evs.nil)) (by walk_at "ev") ?_
    · exact Fs.blot T row _ _ _ (by exact z515 hT) (by exact z303 lF) (by exact z337 lE) (by omega) hin.2 (by intro x hx; simp at hx; rcases hx with rfl | rfl | rfl <;> (first | exact z303 l0 | exact z303 l1 | exact z303 l2))
    · exact Fs.dotted F [P0, P1, P2] E _ _ dF (by intro p hp; simp at hp; rcases hp with rfl | rfl | rfl <;> assumption) dE (by simp) (by intro p hp; simp at hp; rcases hp with rfl | rfl | rfl | rfl | rfl <;> omega) (hM row hrow)
  rw [← et]
  refine Ex.cons (Ex1.assign (d := .list (ways.map LI)) ?_ (by walk_at "store") ?_ no_own (by intro env hn hk; obtain ⟨⟨_, _, _, _, _⟩⟩ := env; cases hn; cases hk; with_unfolding_all rfl))
  · rw [hways, ← kept, ← zip_told]
    refine Ev.comp1f keepP fstP (by decide +kernel) (Src.zip rfl (by walk_at "ev") (by walk_at "ev") (by walk_at "ev")) (by decide +kernel) (by rw [List.length_zipWith, List.length_map]; simp only [lim]; exact z109 hr) fun d hd => ?_
    rw [zip_told] at hd
    obtain ⟨row, hrow, rfl⟩ := List.mem_map.mp hd
    exact ⟨_, Binds.pair _ _ _ _ _ _ _ _ (.inl (by with_unfolding_all rfl)) (by decide +kernel) (.inl (by with_unfolding_all rfl)) (by decide +kernel), Tr.val (d := .bool (toldB T F E [P0, P1, P2] row)) (by walk_at "ev") (Truth.bool _), fun _ => by walk_at "ev"⟩
  refine Ex.cons (Ex1.assign (d := .bool (decide (ways ≠ []))) ?_ (by walk_at "store") ?_ no_own (by intro env _ _; rfl))
  · refine Ev.call (f := .ref 49) (ds := [.str (S (joinL dots (F :: ([P0, P1, P2] ++ [E])))), .str (S T)]) (ks := []) (by walk_at "ev") (by walk_at "ev") (by walk_at "ev") ?_
    exact Fs.dotted F [P0, P1, P2] E _ _ dF (by intro p hp; simp at hp; rcases hp with rfl | rfl | rfl <;> assumption) dE (by simp) (by intro p hp; simp at hp; rcases hp with rfl | rfl | rfl | rfl | rfl <;> omega) (by rw [decide_eq_true_iff]; exact hW)
  exact hN _ (by unfold vA; walk_at "sub")
end
end
section
open PySem PySem.W PyProof.Rows
variable [Lo]
set_option maxRecDepth 100000
theorem S_dec (a b : List Nat) : decide (S a = S b) = decide (a = b) := by
  by_cases h : a = b
  · subst h; simp
  · rw [decide_eq_false h, decide_eq_false fun e => h (S_inj e)]
section
variable {c : Cfg} {C : Addr} {n : Nat} {N : Own → Vars → Prop} {R : D → Prop} {names : Names} {o : Own} {ρ : Vars}
theorem Op2.seqS (a b : List Nat) : Op2 c n (compareOp .Eq) (.str (S a)) (.str (S b)) (.bool (decide (a = b))) := by
  rw [← S_dec]; exact Op2.seq _ _
theorem Ex1.unless {cl : List Str} {t : Expr} {body : List Stmt} {pos : Pos} {b : Bool} (h : Tr c n names o ρ t b) (hb : b = false) (hN : N o ρ) : Ex1 c n names cl o ρ (.If t body [] pos) N R :=
  Ex1.if_ h (fun e => by rw [hb] at e; exact ft_ e) fun _ => Ex.nil hN
theorem lawA6 (G : Globs c C) (Fs : Fns c n) (x0 : D) (T : List Nat) (dr : List Int) (F E P0 P1 P2 : List Nat) (lF : F.length ≤ 2) (lE : E.length ≤ 2) (l0 : P0.length ≤ 2) (l1 : P1.length ≤ 2) (l2 : P2.length ≤ 2)
    (rows : List (List Int)) (hrows : rows = rowsOf F.length P0.length P1.length P2.length (8 - E.length)) (ways : List (List Int)) (ρ : Vars)
    (hρ : Sub (("taken", .bool (decide (ways ≠ []))) :: ("ways", .list (ways.map LI)) :: ("told", .list (rows.map fun r => .bool (toldB T F E [P0, P1, P2] r))) :: ("rows", .list (rows.map LI)) :: vA x0 T dr F E P0 P1 P2) ρ)
    (hN : ∀ ρ, Sub (("taken", .bool (decide (ways ≠ []))) :: ("ways", .list (ways.map LI)) :: ("told", .list (rows.map fun r => .bool (toldB T F E [P0, P1, P2] r))) :: vA x0 T dr F E P0 P1 P2) ρ → Ex c n (namesOf 17) [] none ρ (bodyA.drop 17) N R) :
    Ex c n (namesOf 17) [] none ρ (bodyA.drop 14) N R := by
  refine Ex.sub hρ ?_
  have hsz : LI [(P0.length : Int), P1.length, P2.length] = LI ([P0, P1, P2].map fun p => (p.length : Int)) := rfl
  have hr := rowsOf_len (f := F.length) (a := P0.length) (b := P1.length) (c := P2.length) (s := 8 - E.length) (by exact z384 lF) (by exact z437 lE) (by exact z384 l0) (by exact z384 l1) (by exact z384 l2)
  rw [← hrows] at hr
  refine Ex.cons (Ex1.unless (b := (decide (ways ≠ []) != decide (ways ≠ []))) (Tr.cmp (d₁ := .bool (decide (ways ≠ []))) (d₂ := .bool (decide (ways ≠ []))) (by walk_at "ev") ?_ (Op2.neB _ _)) (by simp) ?_)
  · have e : decide (ways ≠ []) = (!deq (.list (ways.map LI)) (.list [])) := by rw [ne_nil]; simp
    rw [e]
    exact Ev.cmp (d₁ := .list (ways.map LI)) (d₂ := .list []) (by walk_at "ev") (Ev.list Evs.nil (by simp [lim])) (Op2.neLL (.nilR _ _))
  refine Ex.cons (Ex1.assign (d := .bool (heldB T F E)) ?_ (by walk_at "store") ?_ no_own (by intro env _ _; rfl))
  · refine Ev.and2 (a := decide (slc none (some (F.length : Int)) T = F)) ?_ fun _ => ?_
    · exact Ev.cmp (Ev.cutT (by walk_at "ev") .none (.some (by walk_at "ev"))) (by walk_at "ev") (Op2.seqS _ _)
    · exact Ev.cmp (Ev.cutT (by walk_at "ev") (.some (by walk_at "ev")) .none) (by walk_at "ev") (Op2.seqS _ _)
  have et : D.list (rows.map fun r => .bool (toldB T F E [P0, P1, P2] r)) = .list ((rows.map LI).map fun d => .bool (toldB T F E [P0, P1, P2] (unI d))) := by
    rw [List.map_map]; congr 1; apply List.map_congr_left; intro r _; simp only [Function.comp_def, unI_LI]
  have e2 : rows.map (fun r => D.bool (toldB T F E [P0, P1, P2] r)) = (rows.map (toldB T F E [P0, P1, P2])).map .bool := by rw [List.map_map]; rfl
  refine Ex.cons (Ex1.unless (b := !deq (.list (rows.map fun r => .bool (toldB T F E [P0, P1, P2] r))) (.list (rows.map fun r => .bool (toldB T F E [P0, P1, P2] r)))) (Tr.cmp (d₁ := .list (rows.map fun r => .bool (toldB T F E [P0, P1, P2] r))) (d₂ := .list (rows.map fun r => .bool (toldB T F E [P0, P1, P2] r))) (by walk_at "ev") ?_ (Op2.neLL ?_)) ?_ ?_)
  · rw [et]
    refine Ev.comp1 _ (by decide +kernel) (Src.list (by walk_at "ev")) (by decide +kernel) (by rw [List.length_map]; simp only [lim]; exact z422 hr) fun d hd => ?_
    obtain ⟨row, hrow, rfl⟩ := List.mem_map.mp hd
    rw [hrows] at hrow
    have hin := rowsOf_in (by exact z384 lF) (by exact z437 lE) (by exact z384 l0) (by exact z384 l1) (by exact z384 l2) hrow
    refine ⟨_, Binds.name _ _ _ (.inl (by with_unfolding_all rfl)) (by decide +kernel), ?_⟩
    rw [unI_LI]
    refine Ev.and2 (a := heldB T F E) (by walk_at "ev") fun _ => ?_
    have ec : decide (cutsAt T row ([P0, P1, P2].map fun p => (p.length : Int)) = [P0, P1, P2]) = deq (.list ((cutsAt T row [(P0.length : Int), P1.length, P2.length]).map fun l => .str (S l))) (.list ([P0, P1, P2].map fun l => .str (S l))) := by
      rw [deq_str]; rfl
    rw [ec]
    refine Ev.cmp (d₁ := .list ((cutsAt T row [(P0.length : Int), P1.length, P2.length]).map fun l => .str (S l))) (d₂ := .list ([P0, P1, P2].map fun l => .str (S l))) ?_ (by walk_at "ev") (Op2.eq (.ll (kins_str _ _ _)))
    have ez : D.list ((cutsAt T row [(P0.length : Int), P1.length, P2.length]).map fun l => .str (S l)) = .list (((row.zip [(P0.length : Int), P1.length, P2.length]).map fun p => D.tup [.int p.1, .int p.2]).map fun d => match d with | .tup [.int p, .int z] => .str (S (slc (some p) (some (p + z)) T)) | d => d) := by
      rw [List.map_map, cutsAt, List.map_map]; rfl
    rw [ez]
    have hz : List.zipWith (fun a b => D.tup [a, b]) (row.map .int) ([(P0.length : Int), P1.length, P2.length].map .int) = (row.zip [(P0.length : Int), P1.length, P2.length]).map fun p => D.tup [.int p.1, .int p.2] := zip_ints _ _
    rw [← hz]
    refine Ev.comp1 _ (by decide +kernel) (Src.zip rfl (by walk_at "ev") (by walk_at "ev") (by walk_at "ev")) (by decide +kernel) (by rw [List.length_zipWith, List.length_map, hin.1]; simp [lim]) fun d hd => ?_
    rw [hz] at hd
    obtain ⟨⟨p, z⟩, _, rfl⟩ := List.mem_map.mp hd
    refine ⟨_, Binds.pair _ _ _ _ _ _ _ _ (.inl (by with_unfolding_all rfl)) (by decide +kernel) (.inl (by with_unfolding_all rfl)) (by decide +kernel), ?_⟩
    exact Ev.cutT (by walk_at "ev") (.some (by walk_at "ev")) (.some (by walk_at "ev"))
  · rw [e2]; exact kins_bool _ _ _
  · rw [e2, deq_bool]; rfl
  exact hN _ (by unfold vA; walk_at "sub")
end
end
section
open PySem PySem.W PyProof.Rows
variable [Lo]
set_option maxRecDepth 100000
noncomputable def aloneB (T F E : List Nat) (k : Int) : Bool := decide ((F.length : Int) + E.length ≤ k) && (decide (slc none (some (F.length : Int)) T = F) && decide (slc (some (k - E.length)) (some k) T = E))
noncomputable def plainB (T F : List Nat) (k : Int) : Bool := decide (k = F.length) && decide (slc none (some (F.length : Int)) T = F)
noncomputable def isB : D → Bool
  | .bool _ => true
  | _ => false
noncomputable def unB : D → Int
  | .int i => i
  | _ => 0
theorem filter_isB (bs : List Bool) : (bs.map D.bool).filter (fun d => !isB d) = [] := by
  rw [List.filter_map, List.filter_eq_nil_iff.mpr (by intro b _; simp [isB])]; rfl
theorem map_unB (ks : List Int) (g : Int → Bool) : (ks.map D.int).map (fun d => D.bool (g (unB d))) = (ks.map g).map .bool := by
  rw [List.map_map, List.map_map]; rfl
section
variable {c : Cfg} {C : Addr} {n : Nat} {N : Own → Vars → Prop} {R : D → Prop}
theorem lawA7 (G : Globs c C) (Fs : Fns c n) (cut : List Int) (hc : cut.length ≤ 100) (T : List Nat) (dr : List Int) (F E P0 P1 P2 : List Nat) (lF : F.length ≤ 2) (lE : E.length ≤ 2) (dF : 46 ∉ F) (dE : 46 ∉ E)
    (hAl : ∀ k : Int, 0 ≤ k → k ≤ 8 → (aloneB T F E k = true ↔ Fits F [] E (slc none (some k) T))) (hPl : ∀ k : Int, 0 ≤ k → k ≤ 8 → decide (F = slc none (some k) T) = plainB T F k)
    (rows : List (List Int)) (hr : rows.length ≤ 729) (g : List Int → Bool) (tk : Bool) (ways : D) (ρ : Vars) (hρ : Sub (("taken", .bool tk) :: ("ways", ways) :: ("told", .list (rows.map fun r => .bool (g r))) :: vA (LI cut) T dr F E P0 P1 P2) ρ)
    (hN : ∀ ρ, Sub [("count", .int (4 + (cut.length : Int) % 2)), ("ways", ways), ("draws", LI dr), ("first", .int F.length), ("stop", .int (8 - E.length))] ρ → N none ρ) :
    Ex c n (namesOf 17) [] none ρ (bodyA.drop 17) N R := by
  refine Ex.sub hρ ?_
  have h9 : ((rng 0 9).map D.int).length = 9 := by rw [List.length_map, rng_length]; rfl
  have ea := map_unB (rng 0 9) (aloneB T F E)
  have ep := map_unB (rng 0 9) (plainB T F)
  have lE' : Fn c n (.builtin "len") [.str (S E)] [] (.int E.length) := by have := Fn.lenS (c := c) (n := n) (S E); rwa [S_len] at this
  have e2 : rows.map (fun r => D.bool (g r)) = (rows.map g).map .bool := by rw [List.map_map]; rfl
  -- alone
  refine Ex.cons (Ex1.aComp (src := (rng 0 9).map D.int) (fun d => .bool (aloneB T F E (unB d))) (by decide +kernel) (Src.range1 (by walk_at "ev") (by walk_at "ev") (by decide)) (by decide +kernel) (by rw [h9]; decide) (fun d hd => ?_) (by walk_at "store") ?_ (by intro env hn hk; obtain ⟨⟨_, _, _, _, _⟩⟩ := env; cases hn; cases hk; with_unfolding_all rfl))
  · obtain ⟨k, hk, rfl⟩ := List.mem_map.mp hd
    have hk := rng_mem hk
    refine ⟨_, Binds.name _ _ _ (.inl (by with_unfolding_all rfl)) (by decide +kernel), ?_⟩
    refine Ev.call (f := .ref 49) (ds := [.str (S (joinL dots (F :: ([] ++ [E])))), .str (S (slc none (some k) T))]) (ks := []) (by walk_at "ev") (Evs.cons ?_ (Evs.cons (Ev.cutT (by walk_at "ev") .none (.some (by walk_at "ev"))) Evs.nil)) (by walk_at "ev") ?_
    · show Ev _ _ _ _ _ _ (.str (S (F ++ dots ++ E)))
      rw [← S_app, ← S_app]
      exact Ev.bin (Ev.bin (by walk_at "ev") (Ev.lit dots) (Op2.sadd _ _ (by rw [S_len, S_len]; simp [dots, lim]; exact z493 lF))) (by walk_at "ev") (Op2.sadd _ _ (by rw [S_app, S_len, S_len, List.length_append]; simp [dots, lim]; exact z335 lF lE))
    · exact Fs.dotted F [] E _ _ dF (by simp) dE (by simp) (by intro p hp; simp at hp; rcases hp with rfl | rfl <;> (first | exact z405 lE | exact z405 lF)) (hAl k (by exact z382 hk) (by exact z404 hk))
  rw [ea]
  refine Ex.cons (Ex1.unless (b := !deq (.list (((rng 0 9).map (aloneB T F E)).map .bool)) (.list (((rng 0 9).map (aloneB T F E)).map .bool))) (Tr.cmp (d₁ := .list (((rng 0 9).map (aloneB T F E)).map .bool)) (d₂ := .list (((rng 0 9).map (aloneB T F E)).map .bool)) (by walk_at "ev") ?_ (Op2.neLL (kins_bool _ _ _))) (by rw [deq_bool]; rfl) ?_)
  · rw [← ea]
    refine Ev.comp1 _ (by decide +kernel) (Src.range1 (by walk_at "ev") (by walk_at "ev") (by decide)) (by decide +kernel) (by rw [h9]; decide) fun d hd => ?_
    obtain ⟨k, hk, rfl⟩ := List.mem_map.mp hd
    refine ⟨_, Binds.name _ _ _ (.inl (by with_unfolding_all rfl)) (by decide +kernel), ?_⟩
    refine Ev.and3 (a := decide ((F.length : Int) + E.length ≤ k)) ?_ fun _ => Ev.and2 (a := decide (slc none (some (F.length : Int)) T = F)) ?_ fun _ => ?_
    · exact Ev.cmp (d₁ := .int k) (d₂ := .int (F.length + E.length)) (by walk_at "ev") (Ev.bin (by walk_at "ev") (Ev.call (by walk_at "ev") (by walk_at "ev") (by walk_at "ev") lE') (Op2.iadd _ _)) (Op2.ige _ _)
    · exact Ev.cmp (Ev.cutT (by walk_at "ev") .none (.some (by walk_at "ev"))) (by walk_at "ev") (Op2.seqS _ _)
    · exact Ev.cmp (Ev.cutT (by walk_at "ev") (.some (Ev.bin (by walk_at "ev") (Ev.call (by walk_at "ev") (by walk_at "ev") (by walk_at "ev") lE') (Op2.isub _ _))) (.some (by walk_at "ev"))) (by walk_at "ev") (Op2.seqS _ _)
  -- plain
  refine Ex.cons (Ex1.aComp (src := (rng 0 9).map D.int) (fun d => .bool (plainB T F (unB d))) (by decide +kernel) (Src.range1 (by walk_at "ev") (by walk_at "ev") (by decide)) (by decide +kernel) (by rw [h9]; decide) (fun d hd => ?_) (by walk_at "store") ?_ (by intro env hn hk; obtain ⟨⟨_, _, _, _, _⟩⟩ := env; cases hn; cases hk; with_unfolding_all rfl))
  · obtain ⟨k, hk, rfl⟩ := List.mem_map.mp hd
    have hk := rng_mem hk
    refine ⟨_, Binds.name _ _ _ (.inl (by with_unfolding_all rfl)) (by decide +kernel), ?_⟩
    refine Ev.call (f := .ref 49) (ds := [.str (S F), .str (S (slc none (some k) T))]) (ks := []) (by walk_at "ev") (Evs.cons (by walk_at "ev") (Evs.cons (Ev.cutT (by walk_at "ev") .none (.some (by walk_at "ev"))) Evs.nil)) (by walk_at "ev") ?_
    show Fn _ _ _ _ _ (.bool (plainB T F k))
    rw [← hPl k (by exact z382 hk) (by exact z404 hk)]
    exact Fs.plain F _ dF
  rw [ep]
  refine Ex.cons (Ex1.unless (b := !deq (.list (((rng 0 9).map (plainB T F)).map .bool)) (.list (((rng 0 9).map (plainB T F)).map .bool))) (Tr.cmp (d₁ := .list (((rng 0 9).map (plainB T F)).map .bool)) (d₂ := .list (((rng 0 9).map (plainB T F)).map .bool)) (by walk_at "ev") ?_ (Op2.neLL (kins_bool _ _ _))) (by rw [deq_bool]; rfl) ?_)
  · rw [← ep]
    refine Ev.comp1 _ (by decide +kernel) (Src.range1 (by walk_at "ev") (by walk_at "ev") (by decide)) (by decide +kernel) (by rw [h9]; decide) fun d hd => ?_
    obtain ⟨k, hk, rfl⟩ := List.mem_map.mp hd
    refine ⟨_, Binds.name _ _ _ (.inl (by with_unfolding_all rfl)) (by decide +kernel), ?_⟩
    refine Ev.and2 (a := decide (k = F.length)) ?_ fun _ => ?_
    · exact Ev.cmp (d₁ := .int k) (d₂ := .int F.length) (by walk_at "ev") (by walk_at "ev") (Op2.ieq _ _)
    · exact Ev.cmp (Ev.cutT (by walk_at "ev") .none (.some (by walk_at "ev"))) (by walk_at "ev") (Op2.seqS _ _)
  -- kinds
  generalize hA : (rng 0 9).map (aloneB T F E) = al
  generalize hP : (rng 0 9).map (plainB T F) = pl
  have lA : al.length = 9 := by rw [← hA, List.length_map, rng_length]; rfl
  have lP : pl.length = 9 := by rw [← hP, List.length_map, rng_length]; rfl
  rw [e2]
  have lr : (rows.map g).length ≤ 729 := by rw [List.length_map]; exact hr
  generalize rows.map g = tl at *
  refine Ex.cons (Ex1.unless (b := !deq (.list []) (.list [])) (Tr.cmp (d₁ := .list []) (d₂ := .list []) ?_ (Ev.list Evs.nil (by simp [lim])) (Op2.neLL (.nilL _ _))) rfl ?_)
  · have ef : D.list [] = .list (((tl.map D.bool ++ al.map D.bool ++ pl.map D.bool ++ [D.bool tk]).filter fun d => !isB d).map id) := by
      have : tl.map D.bool ++ al.map D.bool ++ pl.map D.bool ++ [D.bool tk] = (tl ++ al ++ pl ++ [tk]).map .bool := by simp
      rw [this, filter_isB]; rfl
    rw [ef]
    refine Ev.comp1f _ _ (by decide +kernel) (Src.list ?_) (by decide +kernel) (by simp [lim, lA, lP]; exact z394 lr) fun d hd => ?_
    · exact Ev.bin (Ev.bin (Ev.bin (by walk_at "ev") (by walk_at "ev") (Op2.ladd _ _ (by simp [lim, lA]; exact z395 lr))) (by walk_at "ev") (Op2.ladd _ _ (by simp [lim, lA, lP]; exact z396 lr))) (Ev.list (Evs.cons (by walk_at "ev") Evs.nil) (by simp [lim])) (Op2.ladd _ _ (by simp [lim, lA, lP]; exact z394 lr))
    · have : ∃ b, d = .bool b := by
        simp only [List.mem_append, List.mem_map, List.mem_singleton] at hd
        rcases hd with ((⟨b, _, rfl⟩ | ⟨b, _, rfl⟩) | ⟨b, _, rfl⟩) | rfl <;> exact ⟨_, rfl⟩
      obtain ⟨b, rfl⟩ := this
      exact ⟨_, Binds.name _ _ _ (.inl (by with_unfolding_all rfl)) (by decide +kernel), Tr.not (Tr.val (d := .bool true) (by walk_at "ev") (Truth.bool _)), fun h => by simp [isB] at h⟩
  have lc : Fn c n (.builtin "len") [LI cut] [] (.int cut.length) := by have := Fn.lenL (c := c) (n := n) (cut.map D.int); rwa [List.length_map] at this
  refine Ex.cons (Ex1.assign (d := .int (4 + (cut.length : Int) % 2)) ?_ (by walk_at "store") (Ex.nil (hN _ (by unfold vA; walk_at "sub"))) no_own (by intro env _ _; rfl))
  exact Ev.bin (by walk_at "ev") (Ev.bin (Ev.call (by walk_at "ev") (by walk_at "ev") (by walk_at "ev") lc) (by walk_at "ev") (Op2.imod _ _ (by decide) (by decide))) (Op2.iadd _ _)
end
end
section
open PySem PySem.W PyProof.Rows
variable [Lo]
set_option maxRecDepth 100000
noncomputable def clB : List Str := ["text", "draws", "front", "end", "pieces", "want", "sizes", "ways", "held", "count", "first", "stop"]
noncomputable def bodyB : List Stmt := (bodyOf 17).drop 24
noncomputable def bagOf (ways : List (List Int)) (dr : List Int) (k : Int) : List (List Int) := (rng 0 k).map fun i => ways.getD (((at' [2, 5, 1, 4, 6] i + at' dr i / 4) % ways.length).toNat) []
noncomputable def col (bag : List (List Int)) (j : Int) : List Int := bag.map fun row => at' row j
theorem kins_int (n : Nat) (xs ys : List Int) : Kins n (xs.map .int) (ys.map .int) := kins_of n _ _ (fun _ _ => .ii n _ _) xs ys
theorem kins_if (n : Nat) (xs ys : List Int) : Kins n (xs.map .int) (ys.map .flt) := kins_of n _ _ (fun _ _ => .jf n _ _) xs ys
theorem kins_fi (n : Nat) (xs ys : List Int) : Kins n (xs.map .flt) (ys.map .int) := kins_of n _ _ (fun _ _ => .fi n _ _) xs ys
theorem deq_int (xs : List Int) : deq (LI xs) (LI xs) = true := deq_map _ _ _ fun b => beq_self_eq_true b
theorem deq_if (xs : List Int) : deq (LI xs) (.list ((xs.map (2 * ·)).map .flt)) = true := by rw [List.map_map]; exact deq_map _ _ _ fun b => beq_self_eq_true (2 * b)
theorem deq_fi (xs : List Int) : deq (.list ((xs.map (2 * ·)).map .flt)) (LI xs) = true := by rw [List.map_map]; exact deq_map _ _ _ fun b => beq_self_eq_true (2 * b)
theorem rng_map_int {k : Int} {d : D} (h : d ∈ (rng 0 k).map D.int) : ∃ i, d = .int i ∧ 0 ≤ i ∧ i < k := by
  obtain ⟨i, hi, rfl⟩ := List.mem_map.mp h
  exact ⟨i, rfl, rng_mem hi⟩
theorem bag_in {ways : List (List Int)} {dr : List Int} {k : Int} (hne : ways ≠ []) {row : List Int} (h : row ∈ bagOf ways dr k) : row ∈ ways := by
  obtain ⟨i, _, rfl⟩ := List.mem_map.mp h
  have hl : 0 < ways.length := List.length_pos_iff.mpr hne
  have h1 := Int.emod_nonneg (at' [2, 5, 1, 4, 6] i + at' dr i / 4) (b := (ways.length : Int)) (by exact z387 hl)
  have h2 := Int.emod_lt_of_pos (at' [2, 5, 1, 4, 6] i + at' dr i / 4) (b := (ways.length : Int)) (by exact z511 hl)
  rw [List.getD, List.getElem?_eq_getElem (by exact z155 h1 h2)]
  exact List.getElem_mem _
theorem bag_len (ways : List (List Int)) (dr : List Int) (k : Int) : (bagOf ways dr k).length = k.toNat := by rw [bagOf, List.length_map, rng_length]; exact z95
theorem col_len (bag : List (List Int)) (j : Int) : (col bag j).length = bag.length := by rw [col, List.length_map]
section
variable {c : Cfg} {C : Addr} {n : Nat} {N : Own → Vars → Prop} {R : D → Prop}
theorem lawB1 (G : Globs c C) (Fs : Fns c n) (ways : List (List Int)) (dr : List Int) (k : Int) (hk : 4 ≤ k ∧ k ≤ 5) (hd : dr.length = 5) (hw : ∀ w ∈ ways, w.length = 3 ∧ ∀ x ∈ w, 0 ≤ x ∧ x ≤ 7) (hl : ways.length ≤ 729) (ρ : Vars)
    (hρ : Sub [("count", .int k), ("ways", .list (ways.map LI)), ("draws", LI dr)] ρ) (hR : R (.bool true))
    (hN : ways ≠ [] → ∀ ρ, Sub [("columns", .list ((rng 0 3).map fun j => LI (col (bagOf ways dr k) j))), ("bag", .list ((bagOf ways dr k).map LI)), ("count", .int k), ("ways", .list (ways.map LI))] ρ → Ex c n (namesOf 17) clB none ρ (bodyB.drop 5) N R) :
    Ex c n (namesOf 17) clB none ρ (bodyB.drop 2) N R := by
  refine Ex.sub hρ ?_
  refine Ex.cons (Ex1.if_ (b := deq (.list (ways.map LI)) (.list [])) (Tr.cmp (d₁ := .list (ways.map LI)) (d₂ := .list []) (by walk_at "ev") (Ev.list Evs.nil (by simp [lim])) (Op2.eq (.ll (.nilR _ _)))) (fun _ => Ex.cons (Ex1.ret (d := .bool true) (by walk_at "ev") hR)) fun h => Ex.nil ?_)
  rw [deq_nil] at h
  have h := of_decide_eq_false h
  have hne : ways ≠ [] := fun e => h (by rw [e]; rfl)
  have hpos : 0 < ways.length := List.length_pos_iff.mpr hne
  have lw : Fn c n (.builtin "len") [.list (ways.map LI)] [] (.int ways.length) := by have := Fn.lenL (c := c) (n := n) (ways.map LI); rwa [List.length_map] at this
  have eb : D.list ((bagOf ways dr k).map LI) = .list (((rng 0 k).map D.int).map fun d => LI (ways.getD (((at' [2, 5, 1, 4, 6] (unB d) + at' dr (unB d) / 4) % ways.length).toNat) [])) := by
    rw [bagOf, List.map_map, List.map_map]; rfl
  have hk5 : ((rng 0 k).map D.int).length ≤ lim := by rw [List.length_map, rng_length]; simp only [lim]; exact z314 hk
  refine Ex.cons (Ex1.assign (d := .list ((bagOf ways dr k).map LI)) ?_ (by walk_at "store") ?_ no_own (by intro env hn hk; obtain ⟨⟨_, _, _, _, _⟩⟩ := env; cases hn; cases hk; with_unfolding_all rfl))
  · rw [eb]
    refine Ev.comp1 _ (by decide +kernel) (Src.range1 (by walk_at "ev") (by walk_at "ev") (by exact z369 hk)) (by decide +kernel) hk5 fun d hd' => ?_
    obtain ⟨i, rfl, h0, h1⟩ := rng_map_int hd'
    refine ⟨_, Binds.name _ _ _ (.inl (by with_unfolding_all rfl)) (by decide +kernel), ?_⟩
    have g1 := ints_get [2, 5, 1, 4, 6] i h0 (by simp; exact z332 hk h1)
    have g2 := ints_get dr i h0 (by exact z286 hk h1 hd)
    have e0 := Int.emod_nonneg (at' [2, 5, 1, 4, 6] i + at' dr i / 4) (b := (ways.length : Int)) (by exact z450 hpos hl)
    have e1 := Int.emod_lt_of_pos (at' [2, 5, 1, 4, 6] i + at' dr i / 4) (b := (ways.length : Int)) (by exact z408 hpos hl)
    refine Ev.item (d₁ := .list (ways.map LI)) (d₂ := .int ((at' [2, 5, 1, 4, 6] i + at' dr i / 4) % ways.length)) (by walk_at "ev") (Ev.bin (Ev.bin (Ev.item (d₁ := .list [.int 2, .int 5, .int 1, .int 4, .int 6]) (by walk_at "ev") (by walk_at "ev") (Got.list _ _ _ h0 g1)) (Ev.bin (Ev.item (by walk_at "ev") (by walk_at "ev") (Got.list _ _ _ h0 g2)) (by walk_at "ev") (Op2.idiv _ _ (by decide) (by decide))) (Op2.iadd _ _)) (Ev.call (by walk_at "ev") (by walk_at "ev") (by walk_at "ev") lw) (Op2.imod _ _ (by exact z408 hpos hl) (by exact z389 hpos hl))) (Got.list _ _ _ e0 ?_)
    rw [List.getElem?_map, List.getElem?_eq_getElem (by exact z126 hpos e1 hl)]
    simp only [unB, Option.map_some, List.getD]
    rw [List.getElem?_eq_getElem (by exact z126 hpos e1 hl)]
    rfl
  have hbag : ∀ row ∈ bagOf ways dr k, row.length = 3 := fun row hr => (hw row (bag_in hne hr)).1
  have hbl := bag_len ways dr k
  have hN := hN hne
  generalize bagOf ways dr k = bag at *
  have ec : D.list ((rng 0 3).map fun j => LI (col bag j)) = .list (((rng 0 3).map D.int).map fun d => LI (col bag (unB d))) := by
    rw [List.map_map]; rfl
  rw [ec] at hN
  refine Ex.cons (Ex1.aComp (src := (rng 0 3).map D.int) (fun d => LI (col bag (unB d))) (by decide +kernel) (Src.range1 (by walk_at "ev") (by walk_at "ev") (by decide)) (by decide +kernel) (by rw [List.length_map, rng_length]; simp [lim]) (fun d hd => ?_) (by walk_at "store") ?_ (by intro env hn hk; obtain ⟨⟨_, _, _, _, _⟩⟩ := env; cases hn; cases hk; with_unfolding_all rfl))
  · obtain ⟨j, rfl, h0, h1⟩ := rng_map_int hd
    refine ⟨_, Binds.name _ _ _ (.inr (by with_unfolding_all rfl)) (by decide +kernel), ?_⟩
    have er : LI (col bag (unB (.int j))) = .list ((bag.map LI).map fun d => .int (at' (unI d) j)) := by
      rw [col, LI, List.map_map, List.map_map]; congr 1; apply List.map_congr_left; intro r _; simp only [Function.comp_def, unI_LI]; rfl
    rw [er]
    refine Ev.comp1 _ (by decide +kernel) (Src.list (by walk_at "ev")) (by decide +kernel) (by rw [List.length_map]; simp only [lim]; exact z229 hk hbl) fun d hd => ?_
    obtain ⟨row, hrow, rfl⟩ := List.mem_map.mp hd
    have := hbag row hrow
    refine ⟨_, Binds.name _ _ _ (.inl (by with_unfolding_all rfl)) (by decide +kernel), ?_⟩
    rw [unI_LI]
    exact Ev.item (by walk_at "ev") (by walk_at "ev") (Got.list _ _ _ h0 (ints_get row j h0 (by exact z248 h0 h1 this)))
  exact hN _ (by walk_at "sub")
end
end
section
open PySem PySem.W PyProof.Rows
variable [Lo]
set_option maxRecDepth 100000
theorem rng_map_get {α : Type} (g : Int → α) {b j : Int} (h0 : 0 ≤ j) (h1 : j < b) : ((rng 0 b).map g)[j.toNat]? = some (g j) := by
  have : (rng 0 b)[j.toNat]? = some j := by
    unfold rng
    rw [List.getElem?_map, List.getElem?_range (by exact z159 h0 h1)]
    simp; exact z250 h0
  rw [List.getElem?_map, this]; rfl
noncomputable def layerOf (cj : Int → List Int) (i : Int) : List Int := (rng 0 3).map fun j => at' (srt (cj j)) i
noncomputable def vB (cj : Int → List Int) : Vars :=
  [("highs", LI ((rng 0 3).map fun j => midHigh (cj j))), ("lows", LI ((rng 0 3).map fun j => midLow (cj j))), ("cuts", .list ((rng 0 3).map fun j => .list ((srt (cj j)).map fun x => .flt (2 * x)))), ("columns", .list ((rng 0 3).map fun j => LI (cj j)))]
section
variable {c : Cfg} {C : Addr} {n : Nat} {N : Own → Vars → Prop} {R : D → Prop}
theorem lawB2 (G : Globs c C) (Fs : Fns c n) (ways : List (List Int)) (cj : Int → List Int) (k : Int) (hk : 4 ≤ k ∧ k ≤ 5) (hc : ∀ j, ((cj j).length : Int) = k ∧ ∀ x ∈ cj j, 0 ≤ x ∧ x ≤ 8) (bag : D)
    (hL : ∀ i, 0 ≤ i → i < k → layerOf cj i ∈ ways) (hlo : (rng 0 3).map (fun j => midLow (cj j)) ∈ ways) (hhi : (rng 0 3).map (fun j => midHigh (cj j)) ∈ ways) (ρ : Vars)
    (hρ : Sub [("columns", .list ((rng 0 3).map fun j => LI (cj j))), ("bag", bag), ("count", .int k), ("ways", .list (ways.map LI))] ρ)
    (hN : ∀ ρ, Sub (("bag", bag) :: ("count", .int k) :: vB cj) ρ → Ex c n (namesOf 17) clB none ρ (bodyB.drop 10) N R) :
    Ex c n (namesOf 17) clB none ρ (bodyB.drop 5) N R := by
  refine Ex.sub hρ ?_
  have h3 : ∀ {α : Type} (g : Int → α), ((rng 0 3).map g).length ≤ lim := fun g => by rw [List.length_map, rng_length]; simp [lim]
  have e1 : D.list ((rng 0 3).map fun j => .list ((srt (cj j)).map fun x => .flt (2 * x))) = .list (((rng 0 3).map fun j => LI (cj j)).map fun d => .list ((srt (unI d)).map fun x => .flt (2 * x))) := by
    rw [List.map_map]; congr 1; apply List.map_congr_left; intro j _; simp only [Function.comp_def, unI_LI]
  have e2 : LI ((rng 0 3).map fun j => midLow (cj j)) = .list (((rng 0 3).map fun j => LI (cj j)).map fun d => .int (midLow (unI d))) := by
    rw [LI, List.map_map, List.map_map]; congr 1; apply List.map_congr_left; intro j _; simp only [Function.comp_def, unI_LI]
  have e3 : LI ((rng 0 3).map fun j => midHigh (cj j)) = .list (((rng 0 3).map fun j => LI (cj j)).map fun d => .int (midHigh (unI d))) := by
    rw [LI, List.map_map, List.map_map]; congr 1; apply List.map_congr_left; intro j _; simp only [Function.comp_def, unI_LI]
  refine Ex.cons (Ex1.assign (d := .list ((rng 0 3).map fun j => .list ((srt (cj j)).map fun x => .flt (2 * x)))) ?_ (by walk_at "store") ?_ no_own (by intro env hn hk; obtain ⟨⟨_, _, _, _, _⟩⟩ := env; cases hn; cases hk; with_unfolding_all rfl))
  · rw [e1]
    refine Ev.comp1 _ (by decide +kernel) (Src.list (by walk_at "ev")) (by decide +kernel) (h3 _) fun d hd => ?_
    obtain ⟨j, _, rfl⟩ := List.mem_map.mp hd
    refine ⟨_, Binds.name _ _ _ (.inl (by with_unfolding_all rfl)) (by decide +kernel), ?_⟩
    have hj := hc j
    rw [unI_LI]
    refine Ev.call (f := .ref 84) (ds := [LI (cj j)]) (ks := [("n", .int (k + 1))]) (by walk_at "ev") (by walk_at "ev") (by walk_at "ev") ?_
    rw [← hj.1]
    exact Fs.quant _ (by omega) (by omega) hj.2
  refine Ex.cons (Ex1.aComp (src := (rng 0 3).map fun j => LI (cj j)) (fun d => .int (midLow (unI d))) (by decide +kernel) (Src.list (by walk_at "ev")) (by decide +kernel) (h3 _) (fun d hd => ?_) (by walk_at "store") ?_ (by intro env hn hk; obtain ⟨⟨_, _, _, _, _⟩⟩ := env; cases hn; cases hk; with_unfolding_all rfl))
  · obtain ⟨j, _, rfl⟩ := List.mem_map.mp hd
    refine ⟨_, Binds.name _ _ _ (.inl (by with_unfolding_all rfl)) (by decide +kernel), ?_⟩
    have hj := hc j
    rw [unI_LI]
    refine Ev.call (f := .ref 69) (ds := [LI (cj j)]) (ks := []) (by walk_at "ev") (by walk_at "ev") (by walk_at "ev") ?_
    exact Fs.low _ (by omega) (by omega)
  rw [← e2]
  refine Ex.cons (Ex1.aComp (src := (rng 0 3).map fun j => LI (cj j)) (fun d => .int (midHigh (unI d))) (by decide +kernel) (Src.list (by walk_at "ev")) (by decide +kernel) (h3 _) (fun d hd => ?_) (by walk_at "store") ?_ (by intro env hn hk; obtain ⟨⟨_, _, _, _, _⟩⟩ := env; cases hn; cases hk; with_unfolding_all rfl))
  · obtain ⟨j, _, rfl⟩ := List.mem_map.mp hd
    refine ⟨_, Binds.name _ _ _ (.inl (by with_unfolding_all rfl)) (by decide +kernel), ?_⟩
    have hj := hc j
    rw [unI_LI]
    refine Ev.call (f := .ref 76) (ds := [LI (cj j)]) (ks := []) (by walk_at "ev") (by walk_at "ev") (by walk_at "ev") ?_
    exact Fs.high _ (by omega) (by omega)
  rw [← e3]
  have hk5 : ((rng 0 k).map D.int).length ≤ lim := by rw [List.length_map, rng_length]; simp only [lim]; exact z314 hk
  refine Ex.cons (Ex1.aComp (src := (rng 0 k).map D.int) (fun d => .list ((rng 0 3).map fun j => .flt (2 * at' (srt (cj j)) (unB d)))) (by decide +kernel) (Src.range1 (by walk_at "ev") (by walk_at "ev") (by exact z369 hk)) (by decide +kernel) hk5 (fun d hd => ?_) (by walk_at "store") ?_ (by intro env hn hk; obtain ⟨⟨_, _, _, _, _⟩⟩ := env; cases hn; cases hk; with_unfolding_all rfl))
  · obtain ⟨i, rfl, h0, h1⟩ := rng_map_int hd
    refine ⟨_, Binds.name _ _ _ (.inr (by with_unfolding_all rfl)) (by decide +kernel), ?_⟩
    have er : D.list ((rng 0 3).map fun j => .flt (2 * at' (srt (cj j)) (unB (.int i)))) = .list (((rng 0 3).map D.int).map fun d => .flt (2 * at' (srt (cj (unB d))) i)) := by
      rw [List.map_map]; rfl
    rw [er]
    refine Ev.comp1 _ (by decide +kernel) (Src.range1 (by walk_at "ev") (by walk_at "ev") (by decide)) (by decide +kernel) (h3 _) fun d hd => ?_
    obtain ⟨j, rfl, h0', h1'⟩ := rng_map_int hd
    have hj := hc j
    have hsl := srt_length (cj j)
    refine ⟨_, Binds.name _ _ _ (.inl (by with_unfolding_all rfl)) (by decide +kernel), ?_⟩
    refine Ev.item (d₁ := .list ((srt (cj j)).map fun x => .flt (2 * x))) (d₂ := .int i) (Ev.item (by walk_at "ev") (by walk_at "ev") (Got.list _ _ _ h0' (rng_map_get _ h0' h1'))) (by walk_at "ev") (Got.list _ _ _ h0 ?_)
    have := ints_get (srt (cj j)) i h0 (by omega)
    rw [List.getElem?_map] at this ⊢
    cases hq : (srt (cj j))[i.toNat]? with
    | none => rw [hq] at this; cases this
    | some v => rw [hq] at this; cases this; rfl
  -- no row is strange
  have e4 : D.list (((rng 0 k).map D.int).map fun d => .list ((rng 0 3).map fun j => .flt (2 * at' (srt (cj j)) (unB d)))) = .list (((rng 0 k).map (layerOf cj)).map fun xs => .list ((xs.map (2 * ·)).map .flt)) := by
    rw [List.map_map, List.map_map]; congr 1
  rw [e4]
  have hll : ((rng 0 k).map (layerOf cj)).length ≤ 5 := by rw [List.length_map, rng_length]; exact z315 hk
  have hLw : ∀ xs ∈ (rng 0 k).map (layerOf cj), xs ∈ ways := fun xs hx => by
    obtain ⟨i, hi, rfl⟩ := List.mem_map.mp hx
    have := rng_mem hi
    exact hL i this.1 this.2
  generalize hlay : (rng 0 k).map (layerOf cj) = lay at *
  generalize hlo' : (rng 0 3).map (fun j => midLow (cj j)) = lo at *
  generalize hhi' : (rng 0 3).map (fun j => midHigh (cj j)) = hi at *
  have hany : ∀ d, (∃ xs ∈ ways, deq (LI xs) d = true) → (ways.map LI).any (fun e => deq e d) = true := fun d ⟨xs, hx, e⟩ => by
    rw [List.any_map, List.any_eq_true]; exact ⟨xs, hx, e⟩
  have hsrc : ∀ d ∈ lay.map (fun xs => D.list ((xs.map (2 * ·)).map .flt)) ++ [LI lo, LI hi], (∃ xs ∈ ways, deq (LI xs) d = true) ∧ ∀ e ∈ ways.map LI, Kin 7 e d := fun d hd => by
    simp only [List.mem_append, List.mem_map, List.mem_cons, List.not_mem_nil, or_false] at hd
    rcases hd with ⟨xs, hx, rfl⟩ | rfl | rfl
    · exact ⟨⟨xs, hLw xs hx, deq_if xs⟩, fun e he => by obtain ⟨w, _, rfl⟩ := List.mem_map.mp he; exact .ll (kins_if _ _ _)⟩
    · exact ⟨⟨lo, hlo, deq_int lo⟩, fun e he => by obtain ⟨w, _, rfl⟩ := List.mem_map.mp he; exact .ll (kins_int _ _ _)⟩
    · exact ⟨⟨hi, hhi, deq_int hi⟩, fun e he => by obtain ⟨w, _, rfl⟩ := List.mem_map.mp he; exact .ll (kins_int _ _ _)⟩
  refine Ex.cons (Ex1.unless (b := !deq (.list []) (.list [])) (Tr.cmp (d₁ := .list []) (d₂ := .list []) ?_ (Ev.list Evs.nil (by simp [lim])) (Op2.neLL (.nilL _ _))) rfl ?_)
  · have ef : D.list [] = .list (((lay.map (fun xs => D.list ((xs.map (2 * ·)).map .flt)) ++ [LI lo, LI hi]).filter fun d => !(ways.map LI).any fun e => deq e d).map id) := by
      rw [List.filter_eq_nil_iff.mpr]
      · rfl
      intro d hd; rw [hany d (hsrc d hd).1]; simp
    rw [ef]
    refine Ev.comp1f _ _ (by decide +kernel) (Src.list ?_) (by decide +kernel) (by simp [lim]; exact z468 hll) fun d hd => ?_
    · exact Ev.bin (by walk_at "ev") (Ev.list (Evs.cons (by walk_at "ev") (Evs.cons (by walk_at "ev") Evs.nil)) (by simp [lim])) (Op2.ladd _ _ (by simp [lim]; exact z468 hll))
    · exact ⟨_, Binds.name _ _ _ (.inl (by with_unfolding_all rfl)) (by decide +kernel), Tr.cmp (d₁ := d) (d₂ := .list (ways.map LI)) (by walk_at "ev") (by walk_at "ev") (Op2.notInL (hsrc d hd).2), fun h => by rw [hany d (hsrc d hd).1] at h; cases h⟩
  refine hN _ ?_
  unfold vB
  rw [hlo', hhi']
  walk_at "sub"
end
end
section
open PySem PySem.W PyProof.Rows
variable [Lo]
set_option maxRecDepth 100000
noncomputable def duesOf (xs : List Int) : List Int := (rng 0 8).flatMap fun q => (xs.filter fun p => decide (p = q)).map fun _ => q
theorem same_rep (xs : List Int) (q : Int) : ((xs.filter fun p => decide (p = q)).map fun _ => q) = List.replicate (xs.count q) q := by
  induction xs with
  | nil => rfl
  | cons x r ih =>
    rw [List.filter_cons, List.count_cons]
    by_cases h : x = q
    · subst h; simp [ih, List.replicate_succ]
    · simp [h, ih]
theorem duesOf_srt (xs : List Int) (h : ∀ x ∈ xs, 0 ≤ x ∧ x ≤ 7) : duesOf xs = srt xs := by
  have e : rng 0 8 = [0, 1, 2, 3, 4, 5, 6, 7] := by decide
  refine srt_of ?_ ?_
  · rw [List.perm_iff_count]
    intro v
    unfold duesOf
    simp only [e, same_rep, List.flatMap_cons, List.flatMap_nil, List.count_append, List.count_replicate, List.count_nil]
    by_cases hv : v ∈ xs
    · have hb := h v hv
      have : v = 0 ∨ v = 1 ∨ v = 2 ∨ v = 3 ∨ v = 4 ∨ v = 5 ∨ v = 6 ∨ v = 7 := by exact z37 hb
      rcases this with rfl | rfl | rfl | rfl | rfl | rfl | rfl | rfl <;> simp
    · have hz : xs.count v = 0 := List.count_eq_zero.mpr hv
      rw [hz]
      have hq : ∀ q : Int, (if (q == v) = true then xs.count q else 0) = 0 := fun q => by
        by_cases hqv : q = v
        · subst hqv; simp [hz]
        · simp [hqv]
      simp only [hq]
  · unfold duesOf
    simp only [e, same_rep, List.flatMap_cons, List.flatMap_nil]
    simp only [List.pairwise_append, List.pairwise_replicate, List.mem_append, List.mem_replicate, List.not_mem_nil, List.Pairwise.nil, or_false, false_implies, implies_true, and_true]
    repeat' (first | apply And.intro | omega | trivial | (intro a ha b hb; omega))
theorem gather_dues (xs : List Int) : gather (fun _ => true) (fun d => gather (fun p => decide (unB p = unB d)) (fun _ => [d]) (xs.map .int)) ((rng 0 8).map .int) = (duesOf xs).map .int := by
  unfold duesOf
  rw [List.map_flatMap]
  unfold gather
  rw [List.flatMap_map]
  congr 1
  funext q
  simp only [if_true]
  have := gather_filter (fun p => decide (unB p = unB (.int q))) (fun _ => D.int q) (xs.map .int)
  unfold gather at this
  rw [this, List.filter_map, List.map_map, List.map_map]
  rfl
section
variable {c : Cfg} {C : Addr} {n : Nat} {N : Own → Vars → Prop} {R : D → Prop}
set_option maxHeartbeats 1000000 in
theorem lawB3 (G : Globs c C) (Fs : Fns c n) (cj : Int → List Int) (k : Int) (hk : 4 ≤ k ∧ k ≤ 5) (hc : ∀ j, ((cj j).length : Int) = k ∧ ∀ x ∈ cj j, 0 ≤ x ∧ x ≤ 7) (bag : D) (ρ : Vars)
    (hρ : Sub (("bag", bag) :: ("count", .int k) :: vB cj) ρ)
    (hN : ∀ ρ, Sub (("dues", .list ((rng 0 3).map fun j => LI (srt (cj j)))) :: ("bag", bag) :: ("count", .int k) :: vB cj) ρ → Ex c n (namesOf 17) clB none ρ (bodyB.drop 11) N R) :
    Ex c n (namesOf 17) clB none ρ (bodyB.drop 10) N R := by
  refine Ex.sub hρ ?_
  have h3 : ∀ {α : Type} (g : Int → α), ((rng 0 3).map g).length ≤ lim := fun g => by rw [List.length_map, rng_length]; simp [lim]
  have e1 : D.list ((rng 0 3).map fun j => LI (srt (cj j))) = .list (((rng 0 3).map fun j => LI (cj j)).map fun d => LI (srt (unI d))) := by
    rw [List.map_map]; congr 1; apply List.map_congr_left; intro j _; simp only [Function.comp_def, unI_LI]
  refine Ex.cons (Ex1.aComp (src := (rng 0 3).map fun j => LI (cj j)) (fun d => LI (srt (unI d))) (by decide +kernel) (Src.list (by unfold vB; walk_at "ev")) (by decide +kernel) (h3 _) (fun d hd => ?_) (by walk_at "store") ?_ (by intro env hn hk; obtain ⟨⟨_, _, _, _, _⟩⟩ := env; cases hn; cases hk; with_unfolding_all rfl))
  · obtain ⟨j, _, rfl⟩ := List.mem_map.mp hd
    refine ⟨_, Binds.name _ _ _ (.inr (by with_unfolding_all rfl)) (by decide +kernel), ?_⟩
    have hj := hc j
    have eL : LI (srt (unI (LI (cj j)))) = .list (gather (fun _ => true) (fun d => gather (fun p => decide (unB p = unB d)) (fun _ => [d]) ((cj j).map D.int)) ((rng 0 8).map .int)) := by
      rw [unI_LI, ← duesOf_srt _ hj.2, gather_dues]
    show Ev _ _ _ _ _ _ (LI (srt (unI (LI (cj j)))))
    rw [eL]
    have hlen : (gather (fun _ => true) (fun d => gather (fun p => decide (unB p = unB d)) (fun _ => [d]) ((cj j).map D.int)) ((rng 0 8).map .int)).length ≤ lim := by
      rw [gather_dues, List.length_map, duesOf_srt _ hj.2, srt_length]; simp only [lim]; omega
    refine Ev.comp (by decide +kernel) (by intro t i f a h; cases h; rfl) (Src.range1 (by walk_at "ev") (by walk_at "ev") (by decide)) (by decide +kernel) hlen fun d hd => ?_
    obtain ⟨q, rfl, h0, h1⟩ := rng_map_int hd
    refine ⟨_, Binds.name _ _ _ (.inl (by with_unfolding_all rfl)) (by decide +kernel), .nil, fun _ => ?_⟩
    refine Em.clause rfl (by intro t i f a h; cases h) (Src.list (by walk_at "ev")) (by intro x hx; cases hx with | head => with_unfolding_all rfl | tail _ h => cases h) fun d hd => ?_
    obtain ⟨p, hp, rfl⟩ := List.mem_map.mp hd
    refine ⟨_, Binds.name _ _ _ (.inl (by with_unfolding_all rfl)) (by decide +kernel), .one ?_, fun _ => Em.elt rfl (by walk_at "ev")⟩
    exact Tr.cmp (d₁ := .int p) (d₂ := .int q) (by walk_at "ev") (by walk_at "ev") (Op2.ieq _ _)
  rw [← e1]
  exact hN _ (by unfold vB; walk_at "sub")
end
end
section
open PySem PySem.W PyProof.Rows
variable [Lo]
set_option maxRecDepth 100000
noncomputable def crossD (bag : List (List Int)) (a b : Int) : List D := gather (fun _ => true) (fun u => gather (fun v => decide (at' (unI u) a < at' (unI v) a) && decide (at' (unI v) b < at' (unI u) b)) (fun _ => [u]) (bag.map LI)) (bag.map LI)
noncomputable def crossB (bag : List (List Int)) (a b : Int) : Bool := !deq (.list (crossD bag a b)) (.list [])
theorem gather_len (keep : D → Bool) (outs : D → List D) (ds : List D) (B : Nat) (h : ∀ d ∈ ds, (outs d).length ≤ B) : (gather keep outs ds).length ≤ ds.length * B := by
  unfold gather
  refine flat_len _ B ds fun d hd => ?_
  split
  · exact h d hd
  · simp
theorem crossD_len (bag : List (List Int)) (a b : Int) : (crossD bag a b).length ≤ bag.length * bag.length := by
  refine Nat.le_trans (gather_len _ _ _ bag.length fun d _ => Nat.le_trans (gather_len _ _ _ 1 fun _ _ => by simp) (by simp)) (by simp)
noncomputable def vC (cj : Int → List Int) (bag : D) (k : Int) : Vars := ("dues", .list ((rng 0 3).map fun j => LI (srt (cj j)))) :: ("bag", bag) :: ("count", .int k) :: vB cj
section
variable {c : Cfg} {C : Addr} {n : Nat} {N : Own → Vars → Prop} {R : D → Prop}
theorem Got.ints (row : List Int) (i : Int) (h0 : 0 ≤ i) (h1 : i < row.length) : Got c n (LI row) (.int i) (.int (at' row i)) := Got.list _ _ _ h0 (ints_get row i h0 h1)
theorem Got.rngL (g : Int → D) (j : Int) (h0 : 0 ≤ j) (h1 : j < 3) : Got c n (.list ((rng 0 3).map g)) (.int j) (g j) := Got.list _ _ _ h0 (rng_map_get g h0 h1)
noncomputable def bodyF : List Stmt := match bodyB[11]? with | some (Stmt.For _ _ b _ _) => b | _ => []
set_option maxHeartbeats 1000000 in
theorem lawF1 (G : Globs c C) (Fs : Fns c n) (bag : List (List Int)) (cj : Int → List Int) (k : Int) (hk : 4 ≤ k ∧ k ≤ 5) (hb : bag.length ≤ 5) (hb3 : ∀ r ∈ bag, r.length = 3) (a b : Int) (ha : 0 ≤ a ∧ a < 3) (hbb : 0 ≤ b ∧ b < 3) (ρ : Vars)
    (hρ : Sub (("j", .int b) :: ("i", .int a) :: vC cj (.list (bag.map LI)) k) ρ)
    (hN : ∀ ρ, Sub (("crossed", .bool (crossB bag a b)) :: ("j", .int b) :: ("i", .int a) :: vC cj (.list (bag.map LI)) k) ρ → Ex c n (namesOf 17) clB none ρ (bodyF.drop 1) N R) :
    Ex c n (namesOf 17) clB none ρ bodyF N R := by
  refine Ex.sub hρ ?_
  refine Ex.cons (Ex1.assign (d := .bool (crossB bag a b)) ?_ (by walk_at "store") ?_ no_own (by intro env _ _; rfl))
  · unfold crossB
    refine Ev.cmp (d₁ := .list (crossD bag a b)) (d₂ := .list []) ?_ (Ev.list Evs.nil (by simp [lim])) (Op2.neLL (.nilR _ _))
    have hl : (crossD bag a b).length ≤ lim := by
      refine Nat.le_trans (crossD_len bag a b) (Nat.le_trans (Nat.mul_le_mul hb hb) (by decide))
    have hu : ∀ d ∈ bag.map LI, ∃ r, d = LI r ∧ r.length = 3 := fun d hd => by obtain ⟨r, hr, rfl⟩ := List.mem_map.mp hd; exact ⟨r, rfl, hb3 r hr⟩
    refine Ev.comp (by decide +kernel) (by intro t i f a h; cases h; rfl) (Src.list (by unfold vC vB; walk_at "ev")) (by decide +kernel) hl fun d hd => ?_
    obtain ⟨u, rfl, hu3⟩ := hu d hd
    refine ⟨_, Binds.name _ _ _ (.inl (by with_unfolding_all rfl)) (by decide +kernel), .nil, fun _ => ?_⟩
    refine Em.clause rfl (by intro t i f a h; cases h) (Src.list (by unfold vC vB; walk_at "ev")) (by intro x hx; cases hx with | head => with_unfolding_all rfl | tail _ h => cases h) fun d hd => ?_
    obtain ⟨v, rfl, hv3⟩ := hu d hd
    refine ⟨_, Binds.name _ _ _ (.inl (by with_unfolding_all rfl)) (by decide +kernel), .one ?_, fun _ => Em.elt rfl (by walk_at "ev")⟩
    rw [unI_LI, unI_LI]
    have e : (decide (at' u a < at' v a) && decide (at' v b < at' u b)) = (decide (at' u a < at' v a) && (decide (at' v b < at' u b) && true)) := by simp
    rw [e]
    refine Tr.boolop (Trs.and_cons (Tr.cmp (d₁ := .int (at' u a)) (d₂ := .int (at' v a)) ?_ ?_ (Op2.ilt _ _)) fun _ => Trs.and_cons (Tr.cmp (d₁ := .int (at' u b)) (d₂ := .int (at' v b)) ?_ ?_ (Op2.igt _ _)) fun _ => Trs.and_nil)
    · exact Ev.item (d₁ := LI u) (d₂ := .int a) (by unfold vC vB; walk_at "ev") (by unfold vC vB; walk_at "ev") (Got.ints u a ha.1 (by exact z298 ha hu3))
    · exact Ev.item (d₁ := LI v) (d₂ := .int a) (by unfold vC vB; walk_at "ev") (by unfold vC vB; walk_at "ev") (Got.ints v a ha.1 (by exact z298 ha hv3))
    · exact Ev.item (d₁ := LI u) (d₂ := .int b) (by unfold vC vB; walk_at "ev") (by unfold vC vB; walk_at "ev") (Got.ints u b hbb.1 (by exact z298 hbb hu3))
    · exact Ev.item (d₁ := LI v) (d₂ := .int b) (by unfold vC vB; walk_at "ev") (by unfold vC vB; walk_at "ev") (Got.ints v b hbb.1 (by exact z298 hbb hv3))
  exact hN _ (by unfold vC vB; walk_at "sub")
end
end
section
open PySem PySem.W PyProof.Rows
variable [Lo]
set_option maxRecDepth 100000
noncomputable def unF : D → Int
  | .flt i => i
  | _ => 0
theorem k_small {k : Int} (hk : 4 ≤ k ∧ k ≤ 5) : 0 ≤ k * (k - 1) ∧ k * (k - 1) ≤ 20 := by
  rcases (by exact z329 hk : k = 4 ∨ k = 5) with rfl | rfl <;> decide
theorem mul_small {a b : Int} (ha : 0 ≤ a ∧ a ≤ 20) (hb : 0 ≤ b ∧ b ≤ 16) : (a * b).natAbs < 2 ^ 53 := by
  rw [Int.natAbs_mul]
  have h1 : a.natAbs ≤ 20 := by exact z345 ha
  have h2 : b.natAbs ≤ 16 := by exact z312 hb
  exact Nat.lt_of_le_of_lt (Nat.mul_le_mul h1 h2) (by decide)
section
variable {c : Cfg} {C : Addr} {n : Nat} {N : Own → Vars → Prop} {R : D → Prop}
set_option maxHeartbeats 1000000 in
theorem lawF2 (G : Globs c C) (Fs : Fns c n) (bag : D) (cj : Int → List Int) (k : Int) (hk : 4 ≤ k ∧ k ≤ 5) (hc : ∀ j, ((cj j).length : Int) = k ∧ ∀ x ∈ cj j, 0 ≤ x ∧ x ≤ 8) (a b : Int) (ha : 0 ≤ a ∧ a < 3) (hbb : 0 ≤ b ∧ b < 3) (cr : D) (ρ : Vars)
    (hρ : Sub (("crossed", cr) :: ("j", .int b) :: ("i", .int a) :: vC cj bag k) ρ)
    (hN : ∀ ρ, Sub (("behind", .flt (2 * bound (srt (cj a)) (srt (cj b)))) :: ("before", .flt (2 * bound (cj a) (cj b))) :: ("crossed", cr) :: ("j", .int b) :: ("i", .int a) :: vC cj bag k) ρ → Ex c n (namesOf 17) clB none ρ (bodyF.drop 3) N R) :
    Ex c n (namesOf 17) clB none ρ (bodyF.drop 1) N R := by
  refine Ex.sub hρ ?_
  have hks := k_small hk
  have hsr : ∀ j, ((srt (cj j)).length : Int) = k ∧ ∀ x ∈ srt (cj j), 0 ≤ x ∧ x ≤ 8 := fun j => ⟨by rw [srt_length]; exact (hc j).1, fun x hx => (hc j).2 x ((srt_perm (cj j)).mem_iff.mp hx)⟩
  refine Ex.cons (Ex1.assign (d := .flt (2 * bound (cj a) (cj b))) ?_ (by walk_at "store") ?_ no_own (by intro env _ _; rfl))
  · have hA := hc a
    have hB := hc b
    refine Ev.call (f := .ref 91) (ds := [.list ((cj a).map fun p => .int (k * (k - 1) * p)), .list ((cj b).map fun q => .int (k * q))]) (ks := []) (by walk_at "ev") (Evs.cons ?_ (Evs.cons ?_ Evs.nil)) (by walk_at "ev") (Fs.covI _ _ k hA.1 hB.1 (by omega) (by omega) hA.2 hB.2)
    · have e : D.list ((cj a).map fun p => .int (k * (k - 1) * p)) = .list (((cj a).map D.int).map fun d => .int (k * (k - 1) * unB d)) := by rw [List.map_map]; rfl
      rw [e]
      refine Ev.comp1 _ (by decide +kernel) (Src.list (Ev.item (d₁ := .list ((rng 0 3).map (fun j => LI (cj j)))) (d₂ := .int a) (by unfold vC vB; walk_at "ev") (by unfold vC vB; walk_at "ev") (Got.rngL (fun j => LI (cj j)) _ ha.1 ha.2))) (by decide +kernel) (by rw [List.length_map]; simp only [lim]; omega) fun d hd => ?_
      obtain ⟨p, hp, rfl⟩ := List.mem_map.mp hd
      have hp := hA.2 p hp
      refine ⟨_, Binds.name _ _ _ (.inl (by with_unfolding_all rfl)) (by decide +kernel), ?_⟩
      exact Ev.bin (d₁ := .int (k * (k - 1))) (d₂ := .int p) (Ev.bin (d₁ := .int k) (d₂ := .int (k - 1)) (by unfold vC vB; walk_at "ev") (by unfold vC vB; walk_at "ev") (Op2.imul _ _ (by left; omega))) (by unfold vC vB; walk_at "ev") (Op2.imul _ _ (by right; exact z194 hp))
    · have e : D.list ((cj b).map fun p => .int (k * p)) = .list (((cj b).map D.int).map fun d => .int (k * unB d)) := by rw [List.map_map]; rfl
      rw [e]
      refine Ev.comp1 _ (by decide +kernel) (Src.list (Ev.item (d₁ := .list ((rng 0 3).map (fun j => LI (cj j)))) (d₂ := .int b) (by unfold vC vB; walk_at "ev") (by unfold vC vB; walk_at "ev") (Got.rngL (fun j => LI (cj j)) _ hbb.1 hbb.2))) (by decide +kernel) (by rw [List.length_map]; simp only [lim]; omega) fun d hd => ?_
      obtain ⟨p, hp, rfl⟩ := List.mem_map.mp hd
      have hp := hB.2 p hp
      refine ⟨_, Binds.name _ _ _ (.inl (by with_unfolding_all rfl)) (by decide +kernel), ?_⟩
      exact Ev.bin (d₁ := .int k) (d₂ := .int p) (by unfold vC vB; walk_at "ev") (by unfold vC vB; walk_at "ev") (Op2.imul _ _ (by left; omega))
  refine Ex.cons (Ex1.assign (d := .flt (2 * bound (srt (cj a)) (srt (cj b)))) ?_ (by walk_at "store") ?_ no_own (by intro env _ _; rfl))
  · have hA := hsr a
    have hB := hsr b
    refine Ev.call (f := .ref 91) (ds := [.list ((srt (cj a)).map fun p => .flt (k * (k - 1) * (2 * p))), .list ((srt (cj b)).map fun q => .flt (k * (2 * q)))]) (ks := []) (by walk_at "ev") (Evs.cons ?_ (Evs.cons ?_ Evs.nil)) (by walk_at "ev") (Fs.covF _ _ k hA.1 hB.1 (by omega) (by omega) hA.2 hB.2)
    · have e : D.list ((srt (cj a)).map fun p => .flt (k * (k - 1) * (2 * p))) = .list (((srt (cj a)).map fun x => D.flt (2 * x)).map fun d => .flt (k * (k - 1) * unF d)) := by rw [List.map_map]; rfl
      rw [e]
      refine Ev.comp1 _ (by decide +kernel) (Src.list (Ev.item (d₁ := .list ((rng 0 3).map (fun j => D.list ((srt (cj j)).map fun x => .flt (2 * x))))) (d₂ := .int a) (by unfold vC vB; walk_at "ev") (by unfold vC vB; walk_at "ev") (Got.rngL (fun j => D.list ((srt (cj j)).map fun x => .flt (2 * x))) _ ha.1 ha.2))) (by decide +kernel) (by rw [List.length_map]; simp only [lim]; omega) fun d hd => ?_
      obtain ⟨p, hp, rfl⟩ := List.mem_map.mp hd
      have hp := hA.2 p hp
      refine ⟨_, Binds.name _ _ _ (.inl (by with_unfolding_all rfl)) (by decide +kernel), ?_⟩
      exact Ev.bin (d₁ := .int (k * (k - 1))) (d₂ := .flt (2 * p)) (Ev.bin (d₁ := .int k) (d₂ := .int (k - 1)) (by unfold vC vB; walk_at "ev") (by unfold vC vB; walk_at "ev") (Op2.imul _ _ (by left; omega))) (by unfold vC vB; walk_at "ev") (Op2.fmul_if _ _ (by exact z170 hks) (mul_small hks (by exact z244 hp)))
    · have e : D.list ((srt (cj b)).map fun p => .flt (k * (2 * p))) = .list (((srt (cj b)).map fun x => D.flt (2 * x)).map fun d => .flt (k * unF d)) := by rw [List.map_map]; rfl
      rw [e]
      refine Ev.comp1 _ (by decide +kernel) (Src.list (Ev.item (d₁ := .list ((rng 0 3).map (fun j => D.list ((srt (cj j)).map fun x => .flt (2 * x))))) (d₂ := .int b) (by unfold vC vB; walk_at "ev") (by unfold vC vB; walk_at "ev") (Got.rngL (fun j => D.list ((srt (cj j)).map fun x => .flt (2 * x))) _ hbb.1 hbb.2))) (by decide +kernel) (by rw [List.length_map]; simp only [lim]; omega) fun d hd => ?_
      obtain ⟨p, hp, rfl⟩ := List.mem_map.mp hd
      have hp := hB.2 p hp
      refine ⟨_, Binds.name _ _ _ (.inl (by with_unfolding_all rfl)) (by decide +kernel), ?_⟩
      exact Ev.bin (d₁ := .int k) (d₂ := .flt (2 * p)) (by unfold vC vB; walk_at "ev") (by unfold vC vB; walk_at "ev") (Op2.fmul_if _ _ (by omega) (mul_small (by omega) (by exact z244 hp)))
  exact hN _ (by unfold vC vB; walk_at "sub")
set_option maxHeartbeats 1000000 in
theorem lawF3 (G : Globs c C) (Fs : Fns c n) (bag : D) (cj : Int → List Int) (k : Int) (hk : 4 ≤ k ∧ k ≤ 5) (hc : ∀ j, ((cj j).length : Int) = k ∧ ∀ x ∈ cj j, 0 ≤ x ∧ x ≤ 8) (a b : Int) (ha : 0 ≤ a ∧ a < 3) (hbb : 0 ≤ b ∧ b < 3) (cr : Bool) (ρ : Vars)
    (hle : bound (cj a) (cj b) ≤ bound (srt (cj a)) (srt (cj b))) (hcr : cr = true ↔ bound (srt (cj a)) (srt (cj b)) ≠ bound (cj a) (cj b))
    (hρ : Sub (("behind", .flt (2 * bound (srt (cj a)) (srt (cj b)))) :: ("before", .flt (2 * bound (cj a) (cj b))) :: ("crossed", .bool cr) :: ("j", .int b) :: ("i", .int a) :: vC cj bag k) ρ)
    (hN : ∀ ρ, Sub (vC cj bag k) ρ → N none ρ) : Ex c n (namesOf 17) clB none ρ (bodyF.drop 3) N R := by
  refine Ex.sub hρ ?_
  have hsr : ∀ j, ((srt (cj j)).length : Int) = k ∧ ∀ x ∈ srt (cj j), 0 ≤ x ∧ x ≤ 8 := fun j => ⟨by rw [srt_length]; exact (hc j).1, fun x hx => (hc j).2 x ((srt_perm (cj j)).mem_iff.mp hx)⟩
  have hA := hc a
  have hB := hc b
  have hA' := hsr a
  have hB' := hsr b
  have fI := Fs.bound (cj a) (cj b) (fun x hx => by have := hA.2 x hx; exact z235 this) (fun x hx => by have := hB.2 x hx; exact z235 this) (by omega) (by omega)
  have fF := Fs.bound (srt (cj a)) (srt (cj b)) (fun x hx => by have := hA'.2 x hx; exact z235 this) (fun x hx => by have := hB'.2 x hx; exact z235 this) (by omega) (by omega)
  generalize hx : bound (cj a) (cj b) = x at *
  generalize hy : bound (srt (cj a)) (srt (cj b)) = y at *
  refine Ex.cons (Ex1.unless (b := (decide (2 * y < 2 * x) || ((decide (2 * y = 2 * x) == cr) || false))) (Tr.boolop (Trs.or_cons (Tr.cmp (d₁ := .flt (2 * y)) (d₂ := .flt (2 * x)) (by unfold vC vB; walk_at "ev") (by unfold vC vB; walk_at "ev") (Op2.flt_lt _ _)) fun _ => Trs.or_cons (Tr.cmp (d₁ := .bool (decide (2 * y = 2 * x))) (d₂ := .bool cr) (Ev.cmp (d₁ := .flt (2 * y)) (d₂ := .flt (2 * x)) (by unfold vC vB; walk_at "ev") (by unfold vC vB; walk_at "ev") (Op2.flt_eq _ _)) (by unfold vC vB; walk_at "ev") (Op2.eq (.bb _ _ _))) fun _ => Trs.or_nil)) ?_ ?_)
  · have h1 : decide (2 * y < 2 * x) = false := decide_eq_false (by exact z260 hle)
    rw [h1]
    cases cr with
    | true => have := hcr.mp rfl; rw [decide_eq_false (by exact z162 this)]; rfl
    | false =>
      have : ¬ (y ≠ x) := fun h => by have := hcr.mpr h; exact ft_ this
      rw [decide_eq_true (by exact z152 this)]; rfl
  have eL : ∀ g : Int → D, Ev c n (namesOf 17) none (("behind", .flt (2 * y)) :: ("before", .flt (2 * x)) :: ("crossed", .bool cr) :: ("j", .int b) :: ("i", .int a) :: vC cj bag k) = Ev c n (namesOf 17) none (("behind", .flt (2 * y)) :: ("before", .flt (2 * x)) :: ("crossed", .bool cr) :: ("j", .int b) :: ("i", .int a) :: vC cj bag k) := fun _ => rfl
  refine Ex.cons (Ex1.unless (b := !deq (.list (([x, y].map (2 * ·)).map .flt)) (LI [x, y])) (Tr.cmp (d₁ := .list (([x, y].map (2 * ·)).map .flt)) (d₂ := LI [x, y]) ?_ ?_ (Op2.neLL (kins_fi _ _ _))) (by rw [deq_fi]; rfl) ?_)
  · show Ev _ _ _ _ _ _ (.list [.flt (2 * x), .flt (2 * y)])
    unfold vC vB; walk_at "ev"
  · show Ev _ _ _ _ _ _ (.list [.int x, .int y])
    refine Ev.list (Evs.cons (Ev.call (f := .ref 129) (ds := [LI (cj a), LI (cj b)]) (ks := []) (by walk_at "ev") (Evs.cons ?_ (Evs.cons ?_ Evs.nil)) (by walk_at "ev") fI) (Evs.cons (Ev.call (f := .ref 129) (ds := [LI (srt (cj a)), LI (srt (cj b))]) (ks := []) (by walk_at "ev") (Evs.cons ?_ (Evs.cons ?_ Evs.nil)) (by walk_at "ev") fF) Evs.nil)) (by simp [lim])
    · exact Ev.item (d₁ := .list ((rng 0 3).map (fun j => LI (cj j)))) (d₂ := .int a) (by unfold vC vB; walk_at "ev") (by unfold vC vB; walk_at "ev") (Got.rngL (fun j => LI (cj j)) _ ha.1 ha.2)
    · exact Ev.item (d₁ := .list ((rng 0 3).map (fun j => LI (cj j)))) (d₂ := .int b) (by unfold vC vB; walk_at "ev") (by unfold vC vB; walk_at "ev") (Got.rngL (fun j => LI (cj j)) _ hbb.1 hbb.2)
    · exact Ev.item (d₁ := .list ((rng 0 3).map (fun j => LI (srt (cj j))))) (d₂ := .int a) (by unfold vC vB; walk_at "ev") (by unfold vC vB; walk_at "ev") (Got.rngL (fun j => LI (srt (cj j))) _ ha.1 ha.2)
    · exact Ev.item (d₁ := .list ((rng 0 3).map (fun j => LI (srt (cj j))))) (d₂ := .int b) (by unfold vC vB; walk_at "ev") (by unfold vC vB; walk_at "ev") (Got.rngL (fun j => LI (srt (cj j))) _ hbb.1 hbb.2)
  refine Ex.cons (Ex1.unless (b := (!true || (!true || false))) (Tr.boolop (Trs.or_cons (Tr.not (Tr.val (d := .bool true) (by unfold vC vB; walk_at "ev") (Truth.bool _))) fun _ => Trs.or_cons (Tr.not (Tr.val (d := .bool true) (by unfold vC vB; walk_at "ev") (Truth.bool _))) fun _ => Trs.or_nil)) rfl (Ex.nil (hN _ (by unfold vC vB; walk_at "sub"))))
end
end
section
open PySem PySem.W PyProof.Rows
variable [Lo]
set_option maxRecDepth 100000
noncomputable def isF : D → Bool
  | .flt _ => true
  | _ => false
noncomputable def isI : D → Bool
  | .int _ => true
  | _ => false
noncomputable def itemsD : D → List D
  | .list ds => ds
  | _ => []
theorem kins_map {α : Type} (n : Nat) (f g : α → D) (xs : List α) (h : ∀ x, Kin n (f x) (g x)) : Kins n (xs.map f) (xs.map g) := by
  induction xs with
  | nil => exact .nilL _ _
  | cons x r ih => exact .cons (h x) ih
theorem gather_none (keep : D → Bool) (f : D → List D) (xs : List D) (h : ∀ x ∈ xs, keep x = false) : gather keep f xs = [] := by
  unfold gather
  rw [List.flatMap_eq_nil_iff]
  intro x hx; rw [h x hx]; rfl
noncomputable def halfOf (cj : Int → List Int) (j : Int) : Int := midLow (cj j) + midHigh (cj j)
section
variable {c : Cfg} {C : Addr} {n : Nat} {N : Own → Vars → Prop} {R : D → Prop}
set_option maxHeartbeats 1000000 in
theorem lawB4 (G : Globs c C) (Fs : Fns c n) (bag : List (List Int)) (cj : Int → List Int) (k : Int) (hk : 4 ≤ k ∧ k ≤ 5) (hc : ∀ j, ((cj j).length : Int) = k ∧ ∀ x ∈ cj j, 0 ≤ x ∧ x ≤ 8) (hb : bag.length ≤ 5) (hb3 : ∀ r ∈ bag, r.length = 3)
    (hle : ∀ a b, (a = 0 ∧ b = 1) ∨ (a = 1 ∧ b = 2) ∨ (a = 2 ∧ b = 0) → bound (cj a) (cj b) ≤ bound (srt (cj a)) (srt (cj b)) ∧ (crossB bag a b = true ↔ bound (srt (cj a)) (srt (cj b)) ≠ bound (cj a) (cj b))) (ρ : Vars)
    (hρ : Sub (vC cj (.list (bag.map LI)) k) ρ) (hN : ∀ ρ, Sub (vC cj (.list (bag.map LI)) k) ρ → Ex c n (namesOf 17) clB none ρ (bodyB.drop 12) N R) :
    Ex c n (namesOf 17) clB none ρ (bodyB.drop 11) N R := by
  refine Ex.cons (Ex1.for_ (src := [.tup [.int 0, .int 1], .tup [.int 1, .int 2], .tup [.int 2, .int 0]]) (fun i o ρ => o = none ∧ Sub (vC cj (.list (bag.map LI)) k) ρ)
    (Src.tup (by walk_at "ev")) ⟨_, ⟨rfl, fun _ _ e => e⟩, hρ⟩ (fun i d hd o' ρ' hI => ?_) fun o' ρ' hI => by obtain ⟨rfl, hI⟩ := hI; exact hN _ hI)
  obtain ⟨rfl, hS⟩ := hI
  have hd' : ∃ a b, d = .tup [.int a, .int b] ∧ ((a = 0 ∧ b = 1) ∨ (a = 1 ∧ b = 2) ∨ (a = 2 ∧ b = 0)) := by
    have := List.mem_of_getElem? hd
    simp only [List.mem_cons, List.not_mem_nil, or_false] at this
    rcases this with rfl | rfl | rfl
    · exact ⟨0, 1, rfl, by simp⟩
    · exact ⟨1, 2, rfl, by simp⟩
    · exact ⟨2, 0, rfl, by simp⟩
  obtain ⟨a, b, rfl, hab⟩ := hd'
  obtain ⟨h1, h2⟩ := hle a b hab
  refine ⟨_, Binds.pair _ _ _ _ _ _ _ _ (.inr (by with_unfolding_all rfl)) (by decide +kernel) (.inr (by with_unfolding_all rfl)) (by decide +kernel), (fun y ds e => by exact ns_ e), ?_⟩
  have ha : 0 ≤ a ∧ a < 3 := by omega
  have hbb : 0 ≤ b ∧ b < 3 := by omega
  exact lawF1 G Fs bag cj k hk hb hb3 a b ha hbb _ (hS.both (bs := [("j", .int b), ("i", .int a)])) fun ρ hρ =>
    lawF2 G Fs _ cj k hk hc a b ha hbb _ ρ hρ fun ρ hρ => lawF3 G Fs _ cj k hk hc a b ha hbb _ ρ h1 h2 hρ fun ρ hρ => ⟨rfl, hρ⟩
noncomputable def vD (cj : Int → List Int) (k : Int) : Vars := ("halves", .list ((rng 0 3).map fun j => .list [.flt (halfOf cj j), .flt (halfOf cj j)])) :: ("dues", .list ((rng 0 3).map fun j => LI (srt (cj j)))) :: ("count", .int k) :: vB cj
theorem lawB5 (G : Globs c C) (Fs : Fns c n) (bag : D) (cj : Int → List Int) (k : Int) (hk : 4 ≤ k ∧ k ≤ 5) (hc : ∀ j, ((cj j).length : Int) = k ∧ ∀ x ∈ cj j, 0 ≤ x ∧ x ≤ 8) (ρ : Vars)
    (hρ : Sub (vC cj bag k) ρ) (hN : ∀ ρ, Sub (vD cj k) ρ → Ex c n (namesOf 17) clB none ρ (bodyB.drop 13) N R) :
    Ex c n (namesOf 17) clB none ρ (bodyB.drop 12) N R := by
  refine Ex.sub hρ ?_
  have h3 : ∀ {α : Type} (g : Int → α), ((rng 0 3).map g).length ≤ lim := fun g => by rw [List.length_map, rng_length]; simp [lim]
  have e1 : D.list ((rng 0 3).map fun j => .list [.flt (halfOf cj j), .flt (halfOf cj j)]) = .list (((rng 0 3).map fun j => LI (cj j)).map fun d => .list ([.flt (midLow (unI d) + midHigh (unI d))] ++ [.flt (midLow (unI d) + midHigh (unI d))])) := by
    rw [List.map_map]; congr 1; apply List.map_congr_left; intro j _; simp only [Function.comp_def, unI_LI]; rfl
  refine Ex.cons (Ex1.aComp (src := (rng 0 3).map fun j => LI (cj j)) (fun d => .list ([.flt (midLow (unI d) + midHigh (unI d))] ++ [.flt (midLow (unI d) + midHigh (unI d))])) (by decide +kernel) (Src.list (by unfold vC vB; walk_at "ev")) (by decide +kernel) (h3 _) (fun d hd => ?_) (by walk_at "store") ?_ (by intro env hn hk; obtain ⟨⟨_, _, _, _, _⟩⟩ := env; cases hn; cases hk; with_unfolding_all rfl))
  · obtain ⟨j, _, rfl⟩ := List.mem_map.mp hd
    refine ⟨_, Binds.name _ _ _ (.inl (by with_unfolding_all rfl)) (by decide +kernel), ?_⟩
    have hj := hc j
    rw [unI_LI]
    refine Ev.bin (Ev.call (f := .ref 84) (ds := [LI (cj j)]) (ks := [("n", .int 2)]) (by walk_at "ev") (by walk_at "ev") (by walk_at "ev") (Fs.quant2 _ (by omega) (by omega) hj.2))
      (Ev.call (f := .ref 84) (ds := [LI (cj j)]) (ks := [("n", .int 2), ("method", .str "inclusive")]) (by walk_at "ev") (by walk_at "ev") (by walk_at "ev") (Fs.quant2i _ (by omega) (by omega) hj.2)) (Op2.ladd _ _ (by simp [lim]))
  rw [← e1]
  exact hN _ (by unfold vC vB vD vB; walk_at "sub")
end
end
section
open PySem PySem.W PyProof.Rows
variable [Lo]
set_option maxRecDepth 100000
section
variable {c : Cfg} {C : Addr} {n : Nat} {N : Own → Vars → Prop} {R : D → Prop}
theorem midLow_at (ns : List Int) (k : Int) (h : (ns.length : Int) = k) (h1 : 1 ≤ k) : midLow ns = at' (srt ns) ((k - 1) / 2) := by
  unfold midLow at'; congr 1; exact z9 h1 h
theorem midHigh_at (ns : List Int) (k : Int) (h : (ns.length : Int) = k) : midHigh ns = at' (srt ns) (k / 2) := by
  unfold midHigh at'; congr 1; exact z21 h
set_option maxHeartbeats 1000000 in
theorem lawB6 (G : Globs c C) (cj : Int → List Int) (k : Int) (hk : 4 ≤ k ∧ k ≤ 5) (hc : ∀ j, ((cj j).length : Int) = k ∧ ∀ x ∈ cj j, 0 ≤ x ∧ x ≤ 8) (ρ : Vars)
    (hρ : Sub (vD cj k) ρ) (hN : ∀ ρ, Sub (vD cj k) ρ → Ex c n (namesOf 17) clB none ρ (bodyB.drop 14) N R) :
    Ex c n (namesOf 17) clB none ρ (bodyB.drop 13) N R := by
  refine Ex.sub hρ ?_
  have e3 : (rng 0 3).length = 3 := by rw [rng_length]; rfl
  have hsl : ∀ j, (srt (cj j)).length ≤ 5 := fun j => by rw [srt_length]; have := (hc j).1; exact z411 hk this
  have hq : deq (.list ((rng 0 3).map fun j => D.list ((srt (cj j)).map fun x => .flt (2 * x)))) (.list ((rng 0 3).map fun j => LI (srt (cj j)))) = true := deq_map _ _ _ fun j => by
    have := deq_fi (srt (cj j)); rwa [List.map_map] at this
  refine Ex.cons (Ex1.unless (b := (!deq (.list ((rng 0 3).map fun j => D.list ((srt (cj j)).map fun x => .flt (2 * x)))) (.list ((rng 0 3).map fun j => LI (srt (cj j)))) || (!deq (.list []) (.list []) || false)))
    (Tr.boolop (Trs.or_cons (Tr.cmp (d₁ := .list ((rng 0 3).map fun j => D.list ((srt (cj j)).map fun x => .flt (2 * x)))) (d₂ := .list ((rng 0 3).map fun j => LI (srt (cj j)))) (by unfold vD vB; walk_at "ev") (by unfold vD vB; walk_at "ev") (Op2.neLL (kins_map _ _ _ _ fun j => .ll (by have := kins_fi 6 ((srt (cj j)).map (2 * ·)) (srt (cj j)); rwa [List.map_map] at this)))) fun _ =>
      Trs.or_cons (Tr.cmp (d₁ := .list []) (d₂ := .list []) ?_ (Ev.list Evs.nil (by simp [lim])) (Op2.neLL (.nilL _ _))) fun _ => Trs.or_nil)) (by rw [hq]; rfl) (hN _ fun _ _ e => e))
  have hsrc : ∀ d ∈ ((rng 0 3).map fun j => D.list ((srt (cj j)).map fun x => .flt (2 * x))) ++ ((rng 0 3).map fun j => D.list [.flt (halfOf cj j), .flt (halfOf cj j)]), ∃ ks : List Int, d = .list (ks.map .flt) ∧ ks.length ≤ 5 := fun d hd => by
    simp only [List.mem_append, List.mem_map] at hd
    rcases hd with ⟨j, _, rfl⟩ | ⟨j, _, rfl⟩
    · exact ⟨(srt (cj j)).map (2 * ·), by rw [List.map_map]; rfl, by rw [List.length_map]; exact hsl j⟩
    · exact ⟨[halfOf cj j, halfOf cj j], rfl, by simp⟩
  have hz : ∀ d ∈ ((rng 0 3).map fun j => D.list ((srt (cj j)).map fun x => .flt (2 * x))) ++ ((rng 0 3).map fun j => D.list [.flt (halfOf cj j), .flt (halfOf cj j)]), gather (fun p => !isF p) (fun p => [p]) (itemsD d) = [] := fun d hd => by
    obtain ⟨ks, rfl, _⟩ := hsrc d hd
    exact gather_none _ _ _ fun x hx => by obtain ⟨i, _, rfl⟩ := List.mem_map.mp hx; rfl
  have eg : D.list [] = .list (gather (fun _ => true) (fun d => gather (fun p => !isF p) (fun p => [p]) (itemsD d)) (((rng 0 3).map fun j => D.list ((srt (cj j)).map fun x => .flt (2 * x))) ++ ((rng 0 3).map fun j => D.list [.flt (halfOf cj j), .flt (halfOf cj j)]))) := by
    congr 1; symm
    unfold gather
    rw [List.flatMap_eq_nil_iff]
    intro d hd
    exact hz d hd
  rw [eg]
  refine Ev.comp (by decide +kernel) (by intro t i f a h; cases h; rfl) (Src.list (Ev.bin (by unfold vD vB; walk_at "ev") (by unfold vD vB; walk_at "ev") (Op2.ladd _ _ (by rw [List.length_map, List.length_map, e3]; decide)))) (by decide +kernel) (by
    have := D.list.inj eg; rw [← this]; simp) fun d hd => ?_
  obtain ⟨ks, rfl, hks⟩ := hsrc d hd
  refine ⟨_, Binds.name _ _ _ (.inl (by with_unfolding_all rfl)) (by decide +kernel), .nil, fun _ => ?_⟩
  refine Em.clause rfl (by intro t i f a h; cases h) (Src.list (ds := ks.map .flt) (by walk_at "ev")) (by intro x hx; cases hx with | head => with_unfolding_all rfl | tail _ h => cases h) fun d hd => ?_
  obtain ⟨p, hp, rfl⟩ := List.mem_map.mp hd
  exact ⟨_, Binds.name _ _ _ (.inl (by with_unfolding_all rfl)) (by decide +kernel), .one (Tr.not (Tr.val (d := .bool true) (by walk_at "ev") (Truth.bool _))), fun h => by simp [isF] at h⟩
end
end
section
open PySem PySem.W PyProof.Rows
variable [Lo]
set_option maxRecDepth 100000
section
variable {c : Cfg} {C : Addr} {n : Nat} {N : Own → Vars → Prop} {R : D → Prop}
set_option maxHeartbeats 1000000 in
theorem lawB7 (G : Globs c C) (cj : Int → List Int) (k : Int) (hk : 4 ≤ k ∧ k ≤ 5) (hc : ∀ j, ((cj j).length : Int) = k ∧ ∀ x ∈ cj j, 0 ≤ x ∧ x ≤ 8) (ρ : Vars)
    (hρ : Sub (vD cj k) ρ) (hR : R (.bool true)) : Ex c n (namesOf 17) clB none ρ (bodyB.drop 14) N R := by
  refine Ex.sub hρ ?_
  have h3 : ∀ {α : Type} (g : Int → α), ((rng 0 3).map g).length ≤ lim := fun g => by rw [List.length_map, rng_length]; simp [lim]
  have e3 : (rng 0 3).length = 3 := by rw [rng_length]; rfl
  have dneq : ∀ xs : List Int, (!deq (LI xs) (LI xs)) = false := fun xs => by rw [deq_int]; rfl
  refine Ex.cons (Ex1.unless (b := (!deq (LI ((rng 0 3).map fun j => midLow (cj j))) (LI ((rng 0 3).map fun j => midLow (cj j))) || (!deq (LI ((rng 0 3).map fun j => midHigh (cj j))) (LI ((rng 0 3).map fun j => midHigh (cj j))) || false)))
    (Tr.boolop (Trs.or_cons (Tr.cmp (d₁ := LI ((rng 0 3).map fun j => midLow (cj j))) (d₂ := LI ((rng 0 3).map fun j => midLow (cj j))) (by unfold vD vB; walk_at "ev") ?_ (Op2.neLL (kins_int _ _ _))) fun _ =>
      Trs.or_cons (Tr.cmp (d₁ := LI ((rng 0 3).map fun j => midHigh (cj j))) (d₂ := LI ((rng 0 3).map fun j => midHigh (cj j))) (by unfold vD vB; walk_at "ev") ?_ (Op2.neLL (kins_int _ _ _))) fun _ => Trs.or_nil)) (by rw [dneq, dneq]; rfl) ?_)
  · have e : LI ((rng 0 3).map fun j => midLow (cj j)) = .list (((rng 0 3).map fun j => LI (srt (cj j))).map fun d => .int (at' (unI d) ((k - 1) / 2))) := by
      rw [LI, List.map_map, List.map_map]; congr 1; apply List.map_congr_left; intro j _; simp only [Function.comp_def, unI_LI, midLow_at _ k (hc j).1 (by exact z471 hk)]
    rw [e]
    refine Ev.comp1 _ (by decide +kernel) (Src.list (by unfold vD vB; walk_at "ev")) (by decide +kernel) (h3 _) fun d hd => ?_
    obtain ⟨j, _, rfl⟩ := List.mem_map.mp hd
    have hj := (hc j).1
    refine ⟨_, Binds.name _ _ _ (.inl (by with_unfolding_all rfl)) (by decide +kernel), ?_⟩
    rw [unI_LI]
    exact Ev.item (d₁ := LI (srt (cj j))) (d₂ := .int ((k - 1) / 2)) (by unfold vD vB; walk_at "ev") (by unfold vD vB; walk_at "ev") (Got.ints _ _ (by exact z163 hk hj) (by rw [srt_length]; exact z161 hk hj))
  · have e : LI ((rng 0 3).map fun j => midHigh (cj j)) = .list (((rng 0 3).map fun j => LI (srt (cj j))).map fun d => .int (at' (unI d) (k / 2))) := by
      rw [LI, List.map_map, List.map_map]; congr 1; apply List.map_congr_left; intro j _; simp only [Function.comp_def, unI_LI, midHigh_at _ k (hc j).1]
    rw [e]
    refine Ev.comp1 _ (by decide +kernel) (Src.list (by unfold vD vB; walk_at "ev")) (by decide +kernel) (h3 _) fun d hd => ?_
    obtain ⟨j, _, rfl⟩ := List.mem_map.mp hd
    have hj := (hc j).1
    refine ⟨_, Binds.name _ _ _ (.inl (by with_unfolding_all rfl)) (by decide +kernel), ?_⟩
    rw [unI_LI]
    exact Ev.item (d₁ := LI (srt (cj j))) (d₂ := .int (k / 2)) (by unfold vD vB; walk_at "ev") (by unfold vD vB; walk_at "ev") (Got.ints _ _ (by exact z177 hk hj) (by rw [srt_length]; exact z173 hk hj))
  refine Ex.cons (Ex1.unless (b := !deq (.list []) (.list [])) (Tr.cmp (d₁ := .list []) (d₂ := .list []) ?_ (Ev.list Evs.nil (by simp [lim])) (Op2.neLL (.nilL _ _))) rfl ?_)
  · have ef : D.list [] = .list (((((rng 0 3).map fun j => midLow (cj j)).map D.int ++ ((rng 0 3).map fun j => midHigh (cj j)).map D.int).filter fun d => !isI d).map id) := by
      rw [List.filter_eq_nil_iff.mpr]
      · rfl
      · intro d hd
        simp only [List.mem_append, List.mem_map] at hd
        rcases hd with ⟨i, _, rfl⟩ | ⟨i, _, rfl⟩ <;> simp [isI]
    rw [ef]
    refine Ev.comp1f _ _ (by decide +kernel) (Src.list ?_) (by decide +kernel) (by simp [lim, e3]) fun d hd => ?_
    · exact Ev.bin (by unfold vD vB; walk_at "ev") (by unfold vD vB; walk_at "ev") (Op2.ladd _ _ (by simp [lim, e3]))
    · have : ∃ i, d = .int i := by
        simp only [List.mem_append, List.mem_map] at hd
        rcases hd with ⟨i, _, rfl⟩ | ⟨i, _, rfl⟩ <;> exact ⟨_, rfl⟩
      obtain ⟨i, rfl⟩ := this
      exact ⟨_, Binds.name _ _ _ (.inl (by with_unfolding_all rfl)) (by decide +kernel), Tr.not (Tr.val (d := .bool true) (by walk_at "ev") (Truth.bool _)), fun h => by simp [isI] at h⟩
  refine Ex.cons (Ex1.ret (d := .bool true) ?_ hR)
  have eT : D.bool true = .bool (deq (.list ((rng 0 3).map fun j => D.list [.flt (2 * halfOf cj j), .flt (2 * halfOf cj j)])) (.list ((rng 0 3).map fun j => LI [halfOf cj j, halfOf cj j]))) := by
    rw [deq_map]
    intro j
    exact deq_fi [halfOf cj j, halfOf cj j]
  rw [eT]
  refine Ev.cmp (d₁ := .list ((rng 0 3).map fun j => D.list [.flt (2 * halfOf cj j), .flt (2 * halfOf cj j)])) (d₂ := .list ((rng 0 3).map fun j => LI [halfOf cj j, halfOf cj j])) ?_ ?_ (Op2.eq (.ll (kins_map _ _ _ _ fun j => .ll (kins_fi _ [2 * halfOf cj j, 2 * halfOf cj j] [halfOf cj j, halfOf cj j]))))
  · have e : D.list ((rng 0 3).map fun j => D.list [.flt (2 * halfOf cj j), .flt (2 * halfOf cj j)]) = .list (((rng 0 3).map fun j => D.list [.flt (halfOf cj j), .flt (halfOf cj j)]).map fun d => .list ((itemsD d).map fun p => .flt (2 * unF p))) := by
      rw [List.map_map]; rfl
    rw [e]
    refine Ev.comp1 _ (by decide +kernel) (Src.list (by unfold vD vB; walk_at "ev")) (by decide +kernel) (h3 _) fun d hd => ?_
    obtain ⟨j, _, rfl⟩ := List.mem_map.mp hd
    refine ⟨_, Binds.name _ _ _ (.inl (by with_unfolding_all rfl)) (by decide +kernel), ?_⟩
    have hlo : (midLow (cj j)).natAbs ≤ 8 ∧ (midHigh (cj j)).natAbs ≤ 8 := by
      have hj := hc j
      have hm : ∀ i : Nat, ((srt (cj j)).getD i 0).natAbs ≤ 8 := fun i => by
        rw [List.getD]
        cases hq : (srt (cj j))[i]? with
        | none => decide
        | some v =>
          have := hj.2 v ((srt_perm (cj j)).mem_iff.mp (List.mem_of_getElem? hq))
          simp only [Option.getD_some]; exact z272 this
      exact ⟨hm _, hm _⟩
    have hh : (2 * halfOf cj j).natAbs < 2 ^ 53 := by unfold halfOf; exact z20 hlo
    refine Ev.comp1 _ (by decide +kernel) (Src.list (ds := [.flt (halfOf cj j), .flt (halfOf cj j)]) (by walk_at "ev")) (by decide +kernel) (by show 2 ≤ lim; decide) fun d hd => ?_
    have : d = .flt (halfOf cj j) := by
      have hd : d ∈ [D.flt (halfOf cj j), D.flt (halfOf cj j)] := hd
      simpa using hd
    subst this
    refine ⟨_, Binds.name _ _ _ (.inl (by with_unfolding_all rfl)) (by decide +kernel), ?_⟩
    exact Ev.bin (d₁ := .int 2) (d₂ := .flt (halfOf cj j)) (by walk_at "ev") (by walk_at "ev") (Op2.fmul_if _ _ (by decide) hh)
  · have hz : List.zipWith (fun a b => D.tup [a, b]) (((rng 0 3).map fun j => midLow (cj j)).map .int) (((rng 0 3).map fun j => midHigh (cj j)).map .int) = (rng 0 3).map fun j => D.tup [.int (midLow (cj j)), .int (midHigh (cj j))] := by
      rw [List.map_map, List.map_map, List.zipWith_map, List.zipWith_self]; rfl
    have e : D.list ((rng 0 3).map fun j => LI [halfOf cj j, halfOf cj j]) = .list (((rng 0 3).map fun j => D.tup [.int (midLow (cj j)), .int (midHigh (cj j))]).map fun d => match d with | .tup [.int a, .int b] => LI [a + b, a + b] | d => d) := by
      rw [List.map_map]; rfl
    rw [e, ← hz]
    refine Ev.comp1 _ (by decide +kernel) (Src.zip rfl (by unfold vD vB; walk_at "ev") (by unfold vD vB; walk_at "ev") (by unfold vD vB; walk_at "ev")) (by decide +kernel) (by rw [hz]; exact h3 _) fun d hd => ?_
    rw [hz] at hd
    obtain ⟨j, _, rfl⟩ := List.mem_map.mp hd
    refine ⟨_, Binds.pair _ _ _ _ _ _ _ _ (.inl (by with_unfolding_all rfl)) (by decide +kernel) (.inl (by with_unfolding_all rfl)) (by decide +kernel), ?_⟩
    exact Ev.bin (d₁ := .list [.int (midLow (cj j) + midHigh (cj j))]) (d₂ := .int 2) (by walk_at "ev") (by walk_at "ev") (Op2.lmul _ _ (by decide) (by simp [lim]) (by decide) (by simp))
end
end
section
open PySem PySem.W PyProof.Rows
variable [Lo]
set_option maxRecDepth 100000
noncomputable def msgs : List Str := ["no median for empty data", "no median for empty data", "must have at least one data point", "n must be at least 1", "covariance requires at least two data points", "covariance requires that both inputs have same number of data points"]
section
variable {c : Cfg} {C : Addr} {n : Nat} {N : Own → Vars → Prop} {R : D → Prop}
/-- what a call of the handler's def gives -/
noncomputable def msgOf (ls : List Value) (d : D) : Str := match d with
  | .val v => msgs.getD (ls.idxOf v) ""
  | _ => ""
theorem kins_s (n : Nat) (xs ys : List Str) : Kins n (xs.map .str) (ys.map .str) := kins_of n _ _ (fun _ _ => .ss n _ _) xs ys
theorem deq_s (xs : List Str) : deq (.list (xs.map .str)) (.list (xs.map .str)) = true := deq_map _ _ _ fun b => beq_self_eq_true b
theorem lawB0 (hg : c.glob "_law_refused" = some (.val (.ref 124))) (f : D → D) (ls : List D) (hl : ls.length ≤ 6) (hF : ∀ d ∈ ls, Fn c n (.ref 124) [d] [] (f d)) (hm : ls.map f = msgs.map .str) (ρ ρ₁ : Vars) (h1 : Sub ρ₁ ρ) (h2 : ρ.lookup ("tries" : Str) = some (.list ls)) (hw : ρ₁.lookup ("words" : Str) = none)
    (hN : ∀ ρ, Sub ρ₁ ρ → Ex c n (namesOf 17) clB none ρ (bodyB.drop 2) N R) : Ex c n (namesOf 17) clB none ρ bodyB N R := by
  refine Ex.cons (Ex1.assign (d := .list (msgs.map .str)) (by
    show Ev _ _ _ _ _ _ (.list [.str "no median for empty data", .str "no median for empty data", .str "must have at least one data point", .str "n must be at least 1", .str "covariance requires at least two data points", .str "covariance requires that both inputs have same number of data points"])
    walk_at "ev") (by walk_at "store") ?_ no_own (by intro env _ _; rfl))
  refine Ex.cons (Ex1.unless (b := !deq (.list (msgs.map .str)) (.list (msgs.map .str))) (Tr.cmp (d₁ := .list (msgs.map .str)) (d₂ := .list (msgs.map .str)) ?_ (by walk_at "ev") (Op2.neLL (kins_s _ _ _))) (by rw [deq_s]; rfl) ?_)
  · rw [← hm]
    refine Ev.comp1 f (by decide +kernel) (Src.list (Ev.name ?_ (by decide +kernel))) (by decide +kernel) (by simp only [lim]; exact z517 hl) fun d hd => ?_
    · rw [List.lookup_cons]; exact h2
    · exact ⟨_, Binds.name _ _ _ (.inl (by with_unfolding_all rfl)) (by decide +kernel), Ev.call (f := .ref 124) (ds := [d]) (ks := []) (Ev.glob (by with_unfolding_all rfl) hg (by decide +kernel)) (by walk_at "ev") (by walk_at "ev") (hF d hd)⟩
  · refine hN _ fun x d h => ?_
    rw [List.lookup_cons]
    cases hb : x == ("words" : Str) with
    | true => rw [beq_iff_eq.mp hb, hw] at h; exact ns_ h
    | false => exact h1 _ _ h
set_option maxHeartbeats 2000000 in
theorem lawB (G : Globs c C) (Fs : Fns c n) (ways : List (List Int)) (dr : List Int) (k : Int) (hk : 4 ≤ k ∧ k ≤ 5) (hd : dr.length = 5) (hw : ∀ w ∈ ways, w.length = 3 ∧ ∀ x ∈ w, 0 ≤ x ∧ x ≤ 7) (hl : ways.length ≤ 729)
    (hL : ways ≠ [] → ∀ i, 0 ≤ i → i < k → layerOf (col (bagOf ways dr k)) i ∈ ways)
    (hle : ways ≠ [] → ∀ a b, (a = 0 ∧ b = 1) ∨ (a = 1 ∧ b = 2) ∨ (a = 2 ∧ b = 0) → bound (col (bagOf ways dr k) a) (col (bagOf ways dr k) b) ≤ bound (srt (col (bagOf ways dr k) a)) (srt (col (bagOf ways dr k) b)) ∧
      (crossB (bagOf ways dr k) a b = true ↔ bound (srt (col (bagOf ways dr k) a)) (srt (col (bagOf ways dr k) b)) ≠ bound (col (bagOf ways dr k) a) (col (bagOf ways dr k) b))) (ρ : Vars)
    (hρ : Sub [("count", .int k), ("ways", .list (ways.map LI)), ("draws", LI dr)] ρ) (hR : R (.bool true)) : Ex c n (namesOf 17) clB none ρ (bodyB.drop 2) N R := by
  refine lawB1 G Fs ways dr k hk hd hw hl ρ hρ hR fun hne ρ hρ => ?_
  have hbl := bag_len ways dr k
  have hb3 : ∀ r ∈ bagOf ways dr k, r.length = 3 ∧ ∀ x ∈ r, 0 ≤ x ∧ x ≤ 7 := fun r hr => hw r (bag_in hne hr)
  have hL := hL hne
  have hle := hle hne
  generalize bagOf ways dr k = bag at *
  have hc7 : ∀ j, ((col bag j).length : Int) = k ∧ ∀ x ∈ col bag j, 0 ≤ x ∧ x ≤ 7 := fun j => ⟨by rw [col_len]; exact z191 hk hbl, fun x hx => by
    obtain ⟨r, hr, rfl⟩ := List.mem_map.mp hx
    have h := (hb3 r hr).2
    unfold at'
    rw [List.getD]
    cases hq : r[j.toNat]? with
    | none => decide
    | some v => exact h v (List.mem_of_getElem? hq)⟩
  have hc : ∀ j, ((col bag j).length : Int) = k ∧ ∀ x ∈ col bag j, 0 ≤ x ∧ x ≤ 8 := fun j => ⟨(hc7 j).1, fun x hx => by have := (hc7 j).2 x hx; exact z307 this⟩
  have hlo : (rng 0 3).map (fun j => midLow (col bag j)) ∈ ways := by
    have e : (rng 0 3).map (fun j => midLow (col bag j)) = layerOf (col bag) ((k - 1) / 2) := List.map_congr_left fun j _ => midLow_at _ k (hc j).1 (by exact z471 hk)
    rw [e]; exact hL _ (by exact z202 hk) (by exact z205 hk)
  have hhi : (rng 0 3).map (fun j => midHigh (col bag j)) ∈ ways := by
    have e : (rng 0 3).map (fun j => midHigh (col bag j)) = layerOf (col bag) (k / 2) := List.map_congr_left fun j _ => midHigh_at _ k (hc j).1
    rw [e]; exact hL _ (by exact z213 hk) (by exact z215 hk)
  have hb5 : bag.length ≤ 5 := by exact z268 hk hbl
  generalize col bag = cj at *
  refine lawB2 G Fs ways cj k hk hc _ hL hlo hhi ρ hρ fun ρ hρ => ?_
  refine lawB3 G Fs cj k hk hc7 _ ρ hρ fun ρ hρ => ?_
  have hρ : Sub (vC cj (.list (bag.map LI)) k) ρ := by unfold vC; exact hρ
  refine lawB4 G Fs bag cj k hk hc hb5 (fun r hr => (hb3 r hr).1) hle ρ hρ fun ρ hρ => ?_
  refine lawB5 G Fs _ cj k hk hc ρ hρ fun ρ hρ => ?_
  refine lawB6 G cj k hk hc ρ hρ fun ρ hρ => ?_
  exact lawB7 G cj k hk hc ρ hρ hR
end
end
section
open PySem PySem.W PyProof.Rows
variable [Lo]
set_option maxRecDepth 100000
/-- what stands of the program -/
structure Std (P : Params) (h : Heap) : Prop where
  K : (hd.heap_39 P).In h
  nl : h.NoLimit
  bm : BMain h
  bl : ∃ mb, h.Ns builtinsNs mb ∧ ∀ x : Str, x ≠ "__name__" → mb x = bootBuiltins x
  mn : ∃ mg, h.Ns mainGlobals mg
  ct : CodeTab h 90
  olds : ∀ b, Lo.old b = true → Here h b
/-- the written part is old, one table may grow -/
structure Lays (P : Params) : Prop where
  old : ∀ a o, (hd.heap_39 P).lookup a = some o → Lo.old a = true
  tabs : ∀ b ∈ Lo.tabs, b = 86 ∨ b = 131
theorem Std.keeps {P : Params} (L : Lays P) {h h' : Heap} (k : Keep h h') (S : Std P h) : Std P h' where
  K := fun a o e => k.at' a o (S.K a o e) (by
    unfold soft
    rw [L.old a o e]
    have : a ∉ Lo.tabs := fun hm => by
      have h0 : (hd.heap_39 P).lookup 86 = none := by kernel_rfl
      have h1 : (hd.heap_39 P).lookup 131 = none := by kernel_rfl
      rcases L.tabs a hm with rfl | rfl
      · rw [h0] at e; exact ns_ e
      · rw [h1] at e; exact ns_ e
    simp [this])
  nl := k.noLimit S.nl
  bm := k.bmain S.bm
  bl := by obtain ⟨mb, n, r⟩ := S.bl; exact ⟨mb, k.ns n, r⟩
  mn := by obtain ⟨mg, n⟩ := S.mn; exact ⟨mg, k.ns n⟩
  ct := k.codeTab S.ct
  olds := fun b hb => by obtain ⟨_, e⟩ := S.olds b hb; exact k.here e
/-- what a global name stands for -/
inductive Entry (K : Frag) (x : Str) : D → Prop
  | glob (v : Value) : nsIn K mainGlobals x = some (some v) → Entry K x (.val v)
  | globS (s : Str) (t : Tok) : nsIn K mainGlobals x = some (some (.str s t)) → s.length ≤ lim → Entry K x (.str s)
  | built (v : Value) : nsIn K mainGlobals x = some none → bootBuiltins x = some v → x ≠ "__name__" → Entry K x (.val v)
theorem Entry.look {P : Params} {h : Heap} {env : Env} {X : List Addr} {x : Str} {d : D} (e : Entry (hd.heap_39 P) x d) (S : Std P h) (hk : env.kindOf x = some .globalImplicit) : ∃ v, Look h env x v ∧ Rep h X v d := by
  obtain ⟨mg, G⟩ := S.mn
  cases e with
  | glob v e => exact ⟨v, .glob hk G (mg_of S.K G e), .val _⟩
  | globS s t e hl => exact ⟨_, .glob hk G (mg_of S.K G e), .str _ _ hl⟩
  | built v e e' hn =>
    obtain ⟨mb, B, hb⟩ := S.bl
    exact ⟨v, .built hk G (mg_none_of S.K G e) B ((hb x hn).trans e'), .val _⟩
theorem globTab_ok (P : Params) : ∀ p ∈ globT 59, Entry (hd.heap_39 P) p.1 p.2 := by
  unfold globT
  refine List.forall_mem_cons.mpr ⟨.built _ (by kernel_rfl) (by decide +kernel) (by decide +kernel), ?_⟩
  refine List.forall_mem_cons.mpr ⟨.built _ (by kernel_rfl) (by decide +kernel) (by decide +kernel), ?_⟩
  refine List.forall_mem_cons.mpr ⟨.built _ (by kernel_rfl) (by decide +kernel) (by decide +kernel), ?_⟩
  refine List.forall_mem_cons.mpr ⟨.built _ (by kernel_rfl) (by decide +kernel) (by decide +kernel), ?_⟩
  refine List.forall_mem_cons.mpr ⟨.built _ (by kernel_rfl) (by decide +kernel) (by decide +kernel), ?_⟩
  refine List.forall_mem_cons.mpr ⟨.built _ (by kernel_rfl) (by decide +kernel) (by decide +kernel), ?_⟩
  refine List.forall_mem_cons.mpr ⟨.built _ (by kernel_rfl) (by decide +kernel) (by decide +kernel), ?_⟩
  refine List.forall_mem_cons.mpr ⟨.built _ (by kernel_rfl) (by decide +kernel) (by decide +kernel), ?_⟩
  refine List.forall_mem_cons.mpr ⟨.built _ (by kernel_rfl) (by decide +kernel) (by decide +kernel), ?_⟩
  refine List.forall_mem_cons.mpr ⟨.built _ (by kernel_rfl) (by decide +kernel) (by decide +kernel), ?_⟩
  refine List.forall_mem_cons.mpr ⟨.built _ (by kernel_rfl) (by decide +kernel) (by decide +kernel), ?_⟩
  refine List.forall_mem_cons.mpr ⟨.glob _ (by kernel_rfl), ?_⟩
  refine List.forall_mem_cons.mpr ⟨.glob _ (by kernel_rfl), ?_⟩
  refine List.forall_mem_cons.mpr ⟨.globS _ 382 (by kernel_rfl) (by decide), ?_⟩
  refine List.forall_mem_cons.mpr ⟨.glob _ (by kernel_rfl), ?_⟩
  refine List.forall_mem_cons.mpr ⟨.glob _ (by kernel_rfl), ?_⟩
  refine List.forall_mem_cons.mpr ⟨.glob _ (by kernel_rfl), ?_⟩
  refine List.forall_mem_cons.mpr ⟨.glob _ (by kernel_rfl), ?_⟩
  refine List.forall_mem_cons.mpr ⟨.glob _ (by kernel_rfl), ?_⟩
  refine List.forall_mem_cons.mpr ⟨.glob _ (by kernel_rfl), ?_⟩
  refine List.forall_mem_cons.mpr ⟨.glob _ (by kernel_rfl), ?_⟩
  refine List.forall_mem_cons.mpr ⟨.glob _ (by kernel_rfl), ?_⟩
  refine List.forall_mem_cons.mpr ⟨.glob _ (by kernel_rfl), ?_⟩
  refine List.forall_mem_cons.mpr ⟨.glob _ (by kernel_rfl), ?_⟩
  refine List.forall_mem_cons.mpr ⟨.glob _ (by kernel_rfl), ?_⟩
  refine List.forall_mem_cons.mpr ⟨.glob _ (by kernel_rfl), ?_⟩
  exact fun _ h => absurd h List.not_mem_nil
end
section
open PySem PySem.W PyProof.Rows
variable [Lo]
set_option maxRecDepth 100000
noncomputable def fdIn (K : Frag) (a : Addr) : FuncData := match K.lookup a with
  | some ⟨_, _, .func fd, _⟩ => fd
  | _ => default
/-- the checks of a def of the written part -/
noncomputable def defOk (K : Frag) (a : Addr) : Bool := match K.lookup a with
  | some ⟨_, _, .func fd, _⟩ => fd.globals == mainGlobals && fd.builtins == builtinsNs && fd.closure.isEmpty && fd.scope.kind == .function && !fd.scope.isCoroutine && !fd.scope.isGenerator &&
      fd.scope.names.all (fun p => p.2 != .free) && (match fd.code with
        | .ref cc => (match K.lookup cc with
          | some ⟨_, _, .fields vs, _⟩ => (match (vs[1]? : Option Value) with
            | some (.str q _) => q == fd.qualname
            | _ => false)
          | _ => false)
        | _ => false)
  | _ => false
theorem defOk_at {K : Frag} {a : Addr} (e : defOk K a = true) : ∃ o, K.lookup a = some o ∧ o.data = .func (fdIn K a) ∧ (fdIn K a).globals = mainGlobals ∧ (fdIn K a).builtins = builtinsNs ∧ (fdIn K a).closure = [] ∧ (fdIn K a).scope.kind = .function ∧
    (fdIn K a).scope.isCoroutine = false ∧ (fdIn K a).scope.isGenerator = false ∧ (fdIn K a).scope.names.all (fun p => p.2 != .free) = true ∧ ∃ cc oc vs t, (fdIn K a).code = .ref cc ∧ K.lookup cc = some oc ∧ oc.data = .fields vs ∧ vs[1]? = some (.str (fdIn K a).qualname t) := by
  unfold defOk at e
  split at e
  · rename_i cl dt fd sl hk
    have hf : fdIn K a = fd := by unfold fdIn; rw [hk]
    rw [hf]
    simp only [Bool.and_eq_true, beq_iff_eq, List.isEmpty_iff, Bool.not_eq_true'] at e
    obtain ⟨⟨⟨⟨⟨⟨⟨e1, e2⟩, e3⟩, e4⟩, e5⟩, e6⟩, e7⟩, e8⟩ := e
    refine ⟨_, hk, rfl, e1, e2, e3, e4, e5, e6, e7, ?_⟩
    split at e8
    · rename_i cc hc
      split at e8
      · rename_i c2 d2 vs s2 hcc
        split at e8
        · rename_i q t hv
          have := beq_iff_eq.mp e8
          subst this
          exact ⟨cc, _, vs, t, hc, hcc, rfl, hv⟩
        · exact ft_ e8
      · exact ft_ e8
    · exact ft_ e8
  · exact ft_ e
noncomputable def nsOk (K : Frag) (a : Addr) : Bool := match K.lookup a with
  | some ⟨_, _, .dict es _, _⟩ => es.toList.all fun e => match e.key with | .str _ _ => true | _ => false
  | _ => false
noncomputable def nsMapK (K : Frag) (a : Addr) (n : Str) : Option Value := match K.lookup a with
  | some ⟨_, _, .dict es _, _⟩ => nsFind es n
  | _ => none
theorem ns_of_ok {K : Frag} {a : Addr} {h : Heap} (e : nsOk K a = true) (X : K.In h) : h.Ns a (nsMapK K a) := by
  unfold nsOk at e
  split at e
  · rename_i cl dd es ep sl hk
    refine ⟨_, es, ep, X _ _ hk, rfl, fun en hen => ?_, fun n => by unfold nsMapK; rw [hk]⟩
    have := List.all_eq_true.mp e en (Array.mem_toList_iff.mpr hen)
    split at this
    · rename_i s t hs; exact ⟨s, t, hs⟩
    · exact ft_ this
  · exact ft_ e
/-- the room that a body walks in -/
noncomputable def theCfg (prog : Program) (w : World) (P : Params) (L : Lays P) (X : Heap → Prop) (hX : ∀ h h', Keep h h' → X h → X h') (fr : Option (List Env)) : Cfg where
  prog := prog
  w := w
  Wf h := Std P h ∧ X h
  keeps h h' k x := ⟨x.1.keeps L k, hX h h' k x.2⟩
  olds h x := x.1.olds
  gl h x := ⟨by obtain ⟨_, n⟩ := x.1.mn; exact here_of_ns n, by obtain ⟨_, n, _⟩ := x.1.bl; exact here_of_ns n⟩
  glob x := (globT 59).lookup x
  frames := fr
  look h env X x d hW _ _ hk hx := by
    have hm := mem_of_lookup hx
    exact (globTab_ok P _ hm).look hW.1 hk
section
variable {prog : Program} {w : World} {P : Params} {L : Lays P} {X : Heap → Prop} {hX : ∀ h h', Keep h h' → X h → X h'} {fr : Option (List Env)}
theorem globs : Globs (theCfg prog w P L X hX fr) 59 := ⟨fun _ _ h => h⟩
theorem isDef {a : Addr} (e : defOk (hd.heap_39 P) a = true) : IsDef (theCfg prog w P L X hX none) a (fdIn (hd.heap_39 P) a) := by
  obtain ⟨o, h1, h2, h3, h4, h5, h6, h7, h8, h9, cc, oc, vs, t, c1, c2, c3, c4⟩ := defOk_at e
  exact ⟨fun h hW => ⟨o, hW.1.K _ _ h1, h2, hW.1.nl, cc, oc, vs, t, c1, hW.1.K _ _ c2, c3, c4⟩, rfl, h3, h4, h5, h6, h7, h8, h9⟩
theorem serr : ∀ h, (theCfg prog w P L X hX fr).Wf h → SErr h 59 := fun h hW =>
  have h1 : (hd.heap_39 P).lookup 59 = some (excClassObj "StatisticsError" "StatisticsError" 59 58 [.type "ValueError"] VEbm true [] [] false none none (some (.ref 50)) none (some (.str "StatisticsError" 398)) (some (.str "StatisticsError" 406)) (some (.bool true)) "ValueError.__new__") := by kernel_rfl
  have n1 := ns_of_ok (K := hd.heap_39 P) (a := 58) (by kernel_rfl) hW.1.K
  ⟨58, _, _, _, _, _, _, _, _, _, _, _, _, _, _, _, hW.1.K _ _ h1, n1, by kernel_rfl, by kernel_rfl⟩
end
end
section
open PySem PySem.W PyProof.Rows
variable [Lo]
set_option maxRecDepth 100000
section
variable {prog : Program} {w : World} {P : Params} {L : Lays P} {X : Heap → Prop} {hX : ∀ h h', Keep h h' → X h → X h'} {n : Nat} {C : Addr} {msg : Str}
noncomputable def psOk (i : Nat) (ps : List Str) : Bool := ps.all fun x => (namesOf i).lookup x == some .local || (namesOf i).lookup x == some .cell
theorem psOk_at {i : Nat} {ps : List Str} (h : psOk i ps = true) : ∀ x ∈ ps, (namesOf i).lookup x = some .local ∨ (namesOf i).lookup x = some .cell := fun x hx => by
  have := List.all_eq_true.mp h x hx
  simpa using this
theorem fnOf {a i : Nat} (e : defOk (hd.heap_39 P) a = true) (hb : (fdIn (hd.heap_39 P) a).body = .stmts (bodyOf i)) (hs : (fdIn (hd.heap_39 P) a).scope.names = namesOf i) (ps : List Str) (hps : psOk i ps = true) {ds : List D} {d : D}
    (hl : ds.length = ps.length) (hbind : ∀ vs : List Value, vs.length = ps.length → bindArgs (fdIn (hd.heap_39 P) a) ⟨vs, []⟩ = pure (ps.zip vs))
    (hex : Ex (theCfg prog w P L X hX none) n (namesOf i) [] none (ps.zip ds).reverse (bodyOf i) (fun _ _ => False) (· = d)) : Fn (theCfg prog w P L X hX none) (n + 1) (.ref a) ds [] d :=
  Fn.def (isDef e) hb (ps := ps) (bds := ds) (by rw [hs]; exact psOk_at hps) (fun s Y vs kvs _ r q => by
    have hv := r.length.trans hl
    have := Reps.none q
    subst this
    exact ⟨vs, BindsTo.of_eq (hbind vs hv), r, hv.symm⟩) (by rw [hs]; exact hex)
theorem fnROf {a i : Nat} (e : defOk (hd.heap_39 P) a = true) (hb : (fdIn (hd.heap_39 P) a).body = .stmts (bodyOf i)) (hs : (fdIn (hd.heap_39 P) a).scope.names = namesOf i) (ps : List Str) (hps : psOk i ps = true) {ds : List D}
    (hl : ds.length = ps.length) (hbind : ∀ vs : List Value, vs.length = ps.length → bindArgs (fdIn (hd.heap_39 P) a) ⟨vs, []⟩ = pure (ps.zip vs))
    (hex : ExR (theCfg prog w P L X hX none) n (namesOf i) [] none (ps.zip ds).reverse (bodyOf i) C msg) : FnR (theCfg prog w P L X hX none) (n + 1) (.ref a) ds [] C msg :=
  FnR.def (isDef e) hb (ps := ps) (bds := ds) (by rw [hs]; exact psOk_at hps) (fun s Y vs kvs _ r q => by
    have hv := r.length.trans hl
    have := Reps.none q
    subst this
    exact ⟨vs, BindsTo.of_eq (hbind vs hv), r, hv.symm⟩) (by rw [hs]; exact hex)
theorem len1 {vs : List Value} (h : vs.length = 1) : ∃ a, vs = [a] := List.length_eq_one_iff.mp h
theorem lenS {n : Nat} {vs : List Value} (h : vs.length = n + 1) : ∃ a r, vs = a :: r ∧ r.length = n := by
  cases vs with
  | nil => exact absurd h (Nat.succ_ne_zero _).symm
  | cons a r => exact ⟨a, r, rfl, Nat.succ.inj h⟩
theorem len2 {vs : List Value} (h : vs.length = 2) : ∃ a b, vs = [a, b] := by
  obtain ⟨a, r, e, q⟩ := lenS h; obtain ⟨b, e'⟩ := len1 q; exact ⟨a, b, by rw [e, e']⟩
theorem len3 {vs : List Value} (h : vs.length = 3) : ∃ a b c, vs = [a, b, c] := by
  obtain ⟨a, r, e, q⟩ := lenS h; obtain ⟨b, c, e'⟩ := len2 q; exact ⟨a, b, c, by rw [e, e']⟩
theorem len5 {vs : List Value} (h : vs.length = 5) : ∃ a b c d e, vs = [a, b, c, d, e] := by
  obtain ⟨a, r, e, q⟩ := lenS h; obtain ⟨b, r', e', q'⟩ := lenS q; obtain ⟨c, d, f, e''⟩ := len3 q'; exact ⟨a, b, c, d, f, by rw [e, e', e'']⟩
theorem f_text (cut : List Int) (hl : cut.length ≤ 100) : Fn (theCfg prog w P L X hX none) (n + 1) (.ref 96) [LI cut] [] (.str (S (textL cut))) :=
  fnOf (i := 11) (by kernel_rfl) (by kernel_rfl) (by kernel_rfl) ["cut"] (by kernel_rfl) rfl (fun vs h => by obtain ⟨a, rfl⟩ := len1 h; kernel_rfl) (text_ex globs cut hl)
theorem f_draws (cut : List Int) (hl : cut.length ≤ 100) : Fn (theCfg prog w P L X hX none) (n + 1) (.ref 103) [LI cut] [] (LI (drawsTo cut cut.length)) :=
  fnOf (i := 12) (by kernel_rfl) (by kernel_rfl) (by kernel_rfl) ["cut"] (by kernel_rfl) rfl (fun vs h => by obtain ⟨a, rfl⟩ := len1 h; kernel_rfl) (draws_ex globs cut hl)
theorem f_rows (f a b c' s : Int) (hf : 0 ≤ f ∧ f ≤ 8) (hs : 0 ≤ s ∧ s ≤ 8) (ha : 0 ≤ a ∧ a ≤ 8) (hb : 0 ≤ b ∧ b ≤ 8) (hc : 0 ≤ c' ∧ c' ≤ 8) : Fn (theCfg prog w P L X hX none) (n + 1) (.ref 110) [.int f, LI [a, b, c'], .int s] [] (.list ((rowsOf f a b c' s).map LI)) :=
  fnOf (i := 13) (by kernel_rfl) (by kernel_rfl) (by kernel_rfl) ["first", "sizes", "stop"] (by kernel_rfl) rfl (fun vs h => by obtain ⟨a, b, c, rfl⟩ := len3 h; kernel_rfl) (rows_ex globs f a b c' s hf hs ha hb hc)
theorem f_blot (text : List Nat) (row sizes : List Int) (f s : Int) (ht : text.length ≤ 8) (hf : 0 ≤ f ∧ f ≤ 8) (hs : 0 ≤ s ∧ s ≤ 8) (hr : row.length ≤ 3) (hrow : ∀ x ∈ row, 0 ≤ x ∧ x ≤ 8) (hsz : ∀ x ∈ sizes, 0 ≤ x ∧ x ≤ 8) :
    Fn (theCfg prog w P L X hX none) (n + 1) (.ref 117) [.str (S text), LI row, .int f, LI sizes, .int s] [] (.str (S (blotOf text row f sizes s))) :=
  fnOf (i := 14) (by kernel_rfl) (by kernel_rfl) (by kernel_rfl) ["text", "row", "first", "sizes", "stop"] (by kernel_rfl) rfl (fun vs h => by obtain ⟨a, b, c, d, e, rfl⟩ := len5 h; kernel_rfl) (blot_ex globs text row sizes f s ht hf hs hr hrow hsz)
theorem f_low (ns : List Int) (h1 : 0 < ns.length) (h2 : ns.length < 64) : Fn (theCfg prog w P L X hX none) (n + 1) (.ref 69) [LI ns] [] (.int (midLow ns)) :=
  fnOf (i := 6) (by kernel_rfl) (by kernel_rfl) (by kernel_rfl) ["data"] (by kernel_rfl) rfl (fun vs h => by obtain ⟨a, rfl⟩ := len1 h; kernel_rfl) (low_ex globs ns h1 h2)
theorem f_high (ns : List Int) (h1 : 0 < ns.length) (h2 : ns.length < 64) : Fn (theCfg prog w P L X hX none) (n + 1) (.ref 76) [LI ns] [] (.int (midHigh ns)) :=
  fnOf (i := 7) (by kernel_rfl) (by kernel_rfl) (by kernel_rfl) ["data"] (by kernel_rfl) rfl (fun vs h => by obtain ⟨a, rfl⟩ := len1 h; kernel_rfl) (high_ex globs ns h1 h2)
theorem f_bound (xs ys : List Int) (hx : ∀ x ∈ xs, 0 ≤ x ∧ x ≤ 1000) (hy : ∀ x ∈ ys, 0 ≤ x ∧ x ≤ 1000) (hlx : xs.length ≤ 100) (hly : ys.length ≤ 100) : Fn (theCfg prog w P L X hX none) (n + 1) (.ref 129) [LI xs, LI ys] [] (.int (bound xs ys)) :=
  fnOf (i := 16) (by kernel_rfl) (by kernel_rfl) (by kernel_rfl) ["left", "right"] (by kernel_rfl) rfl (fun vs h => by obtain ⟨a, b, rfl⟩ := len2 h; kernel_rfl) (bound_ex globs xs ys hx hy hlx hly)
theorem f_plain (x g : Str) (h : Txt.contains x "..." = false) : Fn (theCfg prog w P L X hX none) (n + 1) (.ref 49) [.str x, .str g] [] (.bool (decide (x = g))) :=
  fnOf (i := 3) (by kernel_rfl) (by kernel_rfl) (by kernel_rfl) ["want", "got"] (by kernel_rfl) rfl (fun vs h => by obtain ⟨a, b, rfl⟩ := len2 h; kernel_rfl) (match_plain globs x g h)
theorem f_match (x g w0 : Str) (mid : List Str) (w' : Str) (h : Txt.contains x "..." = true) (hs : Txt.split x "..." = w0 :: (mid ++ [w'])) (hl : mid.length ≤ 100) (hx : ∀ z ∈ w0 :: (mid ++ [w']), z.length ≤ lim) :
    Fn (theCfg prog w P L X hX none) (n + 1) (.ref 49) [.str x, .str g] [] (.bool (headM g w0 mid w')) :=
  fnOf (i := 3) (by kernel_rfl) (by kernel_rfl) (by kernel_rfl) ["want", "got"] (by kernel_rfl) rfl (fun vs h => by obtain ⟨a, b, rfl⟩ := len2 h; kernel_rfl) (match_ex globs x g w0 mid w' h hs hl hx)
theorem r_low : FnR (theCfg prog w P L X hX none) (n + 1) (.ref 69) [LI []] [] 59 "no median for empty data" :=
  fnROf (i := 6) (by kernel_rfl) (by kernel_rfl) (by kernel_rfl) ["data"] (by kernel_rfl) rfl (fun vs h => by obtain ⟨a, rfl⟩ := len1 h; kernel_rfl) (low_exR globs serr)
theorem r_high : FnR (theCfg prog w P L X hX none) (n + 1) (.ref 76) [LI []] [] 59 "no median for empty data" :=
  fnROf (i := 7) (by kernel_rfl) (by kernel_rfl) (by kernel_rfl) ["data"] (by kernel_rfl) rfl (fun vs h => by obtain ⟨a, rfl⟩ := len1 h; kernel_rfl) (high_exR globs serr)
theorem r_cov1 (xs ys : List D) (h : ys.length ≠ xs.length) : FnR (theCfg prog w P L X hX none) (n + 1) (.ref 91) [.list xs, .list ys] [] 59 "covariance requires that both inputs have same number of data points" :=
  fnROf (i := 9) (by kernel_rfl) (by kernel_rfl) (by kernel_rfl) ["x", "y"] (by kernel_rfl) rfl (fun vs h => by obtain ⟨a, b, rfl⟩ := len2 h; kernel_rfl) (cov_exR1 globs serr xs ys h)
theorem r_cov2 (xs ys : List D) (h : ys.length = xs.length) (h2 : xs.length < 2) : FnR (theCfg prog w P L X hX none) (n + 1) (.ref 91) [.list xs, .list ys] [] 59 "covariance requires at least two data points" :=
  fnROf (i := 9) (by kernel_rfl) (by kernel_rfl) (by kernel_rfl) ["x", "y"] (by kernel_rfl) rfl (fun vs h => by obtain ⟨a, b, rfl⟩ := len2 h; kernel_rfl) (cov_exR2 globs serr xs ys h h2)
end
end
section
open PySem PySem.W PyProof.Rows
variable [Lo]
set_option maxRecDepth 100000
/-- what stands behind a load at a step's head -/
noncomputable def after {α : Type} (t : Sem α) (o : Obj) : Sem α := match t with
  | .load _ _ k => k o
  | t => t
theorem BindsTo.of_load {s : Shared} {fd : FuncData} {args : Args} {binds : List (Str × Value)} {a : Addr} {part : Option Value} {o : Obj} (ho : s.heap.get? a = some o)
    (h₁ : bindArgs fd args = loadPart a part >>= after (bindArgs fd args)) (h₂ : after (bindArgs fd args) o = pure binds) : BindsTo s fd args binds := fun M A E Q hq => by
  rw [h₁]
  refine wpAny_bind (wpAny_loadPart ho ?_)
  rw [h₂]
  exact wpAny_pure hq
end
section
open PySem PySem.W PyProof.Rows
variable [Lo]
set_option maxRecDepth 100000
section
variable {prog : Program} {w : World} {P : Params} {L : Lays P} {X : Heap → Prop} {hX : ∀ h h', Keep h h' → X h → X h'} {n : Nat} {C : Addr} {msg : Str}
theorem qbind1 {ds : D} {N : Int} (s : Shared) (Y : List Addr) (vs kvs : List Value) (hW : (theCfg prog w P L X hX none).Wf s.heap) (r : Reps s.heap Y vs [ds]) (q : Reps s.heap Y kvs ([(("n" : Str), D.int N)].map (·.2))) :
    ∃ bvs, BindsTo s (fdIn (hd.heap_39 P) 84) ⟨vs, ([(("n" : Str), D.int N)].map (·.1)).zip kvs⟩ ([("data" : Str), "n", "method"].zip bvs) ∧ Reps s.heap Y bvs [ds, .int N, .str "exclusive"] ∧ [("data" : Str), "n", "method"].length = bvs.length := by
  obtain ⟨v, rfl, r'⟩ := Reps.one r
  obtain ⟨u, rfl, q'⟩ := Reps.one q
  have ho : s.heap.get? 77 = some (((hd.heap_39 P).lookup 77).getD default) := hW.1.K _ _ (by kernel_rfl)
  exact ⟨[v, u, .str "exclusive" 433], Mine.BindsTo.of_load (part := some (.str "method" 0)) ho (by kernel_rfl) (by kernel_rfl), .cons r' (.cons q' (.cons (.str _ _ (by decide)) .nil)), rfl⟩
theorem qbind2 {ds : D} {N : Int} {m : Str} (s : Shared) (Y : List Addr) (vs kvs : List Value) (r : Reps s.heap Y vs [ds]) (q : Reps s.heap Y kvs ([(("n" : Str), D.int N), ("method", .str m)].map (·.2))) :
    ∃ bvs, BindsTo s (fdIn (hd.heap_39 P) 84) ⟨vs, ([(("n" : Str), D.int N), ("method", .str m)].map (·.1)).zip kvs⟩ ([("data" : Str), "n", "method"].zip bvs) ∧ Reps s.heap Y bvs [ds, .int N, .str m] ∧ [("data" : Str), "n", "method"].length = bvs.length := by
  obtain ⟨v, rfl, r'⟩ := Reps.one r
  obtain ⟨u, x, rfl, q', q''⟩ := Reps.two q
  have b2 : BindsTo s (fdIn (hd.heap_39 P) 84) ⟨[v], [("n", u), ("method", x)]⟩ [("data", v), ("n", u), ("method", x)] := .of_eq (by kernel_rfl)
  generalize fdIn (hd.heap_39 P) 84 = fd at b2 ⊢
  exact ⟨[v, u, x], b2, .cons r' (.cons q' (.cons q'' .nil)), rfl⟩
theorem f_quant (ns : List Int) (N : Int) (ks : Nat → Int) (h1 : 2 ≤ ns.length) (h2 : ns.length < 64) (hN : 1 ≤ N) (hN' : N ≤ 64) (hb : ∀ x ∈ ns, -(2 ^ 20) ≤ x ∧ x ≤ 2 ^ 20)
    (hk : ∀ i : Nat, 1 + (i : Int) < N → 2 * exNum (srt ns) N (1 + i) = ks i * N ∧ (ks i).natAbs < 2 ^ 53) :
    Fn (theCfg prog w P L X hX none) (n + 1) (.ref 84) [LI ns] [("n", .int N)] (.list ((List.range (N - 1).toNat).map fun i => .flt (ks i))) :=
  have hs : (fdIn (hd.heap_39 P) 84).scope.names = namesOf 8 := by kernel_rfl
  Fn.def (isDef (by kernel_rfl)) (by kernel_rfl : (fdIn (hd.heap_39 P) 84).body = .stmts (bodyOf 8)) (ps := ["data", "n", "method"]) (bds := [LI ns, .int N, .str "exclusive"]) (by rw [hs]; exact psOk_at (i := 8) (by kernel_rfl)) qbind1
    (by rw [hs]; exact quant_ex globs ns N ks h1 h2 hN hN' hb hk)
theorem f_quantIn (ns : List Int) (N : Int) (ks : Nat → Int) (h1 : 2 ≤ ns.length) (h2 : ns.length < 64) (hN : 1 ≤ N) (hN' : N ≤ 64) (hb : ∀ x ∈ ns, -(2 ^ 20) ≤ x ∧ x ≤ 2 ^ 20)
    (hk : ∀ i : Nat, 1 + (i : Int) < N → 2 * inNum (srt ns) N (1 + i) = ks i * N ∧ (ks i).natAbs < 2 ^ 53) :
    Fn (theCfg prog w P L X hX none) (n + 1) (.ref 84) [LI ns] [("n", .int N), ("method", .str "inclusive")] (.list ((List.range (N - 1).toNat).map fun i => .flt (ks i))) :=
  have hs : (fdIn (hd.heap_39 P) 84).scope.names = namesOf 8 := by kernel_rfl
  Fn.def (isDef (by kernel_rfl)) (by kernel_rfl : (fdIn (hd.heap_39 P) 84).body = .stmts (bodyOf 8)) (ps := ["data", "n", "method"]) (bds := [LI ns, .int N, .str "inclusive"]) (by rw [hs]; exact psOk_at (i := 8) (by kernel_rfl)) (fun s Y vs kvs _ => qbind2 s Y vs kvs)
    (by rw [hs]; exact quantIn_ex globs ns N ks h1 h2 hN hN' hb hk)
theorem r_quant0 (ns : List Int) (N : Int) (hN : N < 1) : FnR (theCfg prog w P L X hX none) (n + 1) (.ref 84) [LI ns] [("n", .int N)] 59 "n must be at least 1" :=
  have hs : (fdIn (hd.heap_39 P) 84).scope.names = namesOf 8 := by kernel_rfl
  FnR.def (isDef (by kernel_rfl)) (by kernel_rfl : (fdIn (hd.heap_39 P) 84).body = .stmts (bodyOf 8)) (ps := ["data", "n", "method"]) (bds := [LI ns, .int N, .str "exclusive"]) (by rw [hs]; exact psOk_at (i := 8) (by kernel_rfl)) qbind1
    (by rw [hs]; exact quant_exR0 globs serr ns N hN _)
theorem r_quant1 (N : Int) (hN : 1 ≤ N) : FnR (theCfg prog w P L X hX none) (n + 1) (.ref 84) [LI []] [("n", .int N)] 59 "must have at least one data point" :=
  have hs : (fdIn (hd.heap_39 P) 84).scope.names = namesOf 8 := by kernel_rfl
  FnR.def (isDef (by kernel_rfl)) (by kernel_rfl : (fdIn (hd.heap_39 P) 84).body = .stmts (bodyOf 8)) (ps := ["data", "n", "method"]) (bds := [LI [], .int N, .str "exclusive"]) (by rw [hs]; exact psOk_at (i := 8) (by kernel_rfl)) qbind1
    (by rw [hs]; exact quant_exR1 globs serr N hN _)
theorem f_cov (xs ys : List D) (js : List Int) (mx my k : Int) (hx : ∀ d ∈ xs, isNum d = true ∧ (dbl d).natAbs ≤ 2 ^ 40) (hy : ∀ d ∈ ys, isNum d = true ∧ (dbl d).natAbs ≤ 2 ^ 40)
    (h2 : 2 ≤ xs.length) (hlx : xs.length ≤ lim) (hl : ys.length = xs.length) (hj : js.length = xs.length) (ex : (xs.map dbl).sum = mx * xs.length) (ey : (ys.map dbl).sum = my * xs.length) (bx : mx.natAbs ≤ 2 ^ 41) (byy : my.natAbs ≤ 2 ^ 41)
    (hjb : ∀ j ∈ js, j.natAbs ≤ 2 ^ 40) (hjs : ∀ (i : Nat) (d e : D) (j : Int), xs[i]? = some d → ys[i]? = some e → js[i]? = some j → (dbl d - mx) * (dbl e - my) = 2 * j) (ek : js.sum = k * (xs.length - 1)) (bk : k.natAbs < 2 ^ 53) :
    Fn (theCfg prog w P L X hX none) (n + 2) (.ref 91) [.list xs, .list ys] [] (.flt k) :=
  have hs : (fdIn (hd.heap_39 P) 91).scope.names = namesOf 9 := by kernel_rfl
  Fn.defC (cc := 90) (isDef (by kernel_rfl)) (by kernel_rfl : (fdIn (hd.heap_39 P) 91).body = .stmts (bodyOf 9)) (by kernel_rfl) (ps := ["x", "y"]) (bds := [.list xs, .list ys]) (by rw [hs]; exact psOk_at (i := 9) (by kernel_rfl))
    (fun s Y vs kvs _ r q => by
      have := Reps.none q
      subst this
      obtain ⟨a, b, rfl, _, _⟩ := Reps.two r
      exact ⟨[a, b], BindsTo.of_eq (by kernel_rfl), r, rfl⟩)
    (by rw [hs]; exact cov_ex globs (fun h hW => ⟨hW.1.bm, hW.1.nl, hW.1.ct⟩) xs ys js mx my k hx hy h2 hlx hl hj ex ey bx byy hjb hjs ek bk)
end
end
section
open PySem PySem.W PyProof.Rows
open Builtin Builtin.Str StrLaws
variable [Lo]
theorem Dec.more {r : List (List Nat)} {y : List Nat} (z : List Nat) (h : Dec r y) : Dec r (z ++ y) := by
  cases r with
  | nil => trivial
  | cons w r =>
    obtain ⟨x, t, rfl, h⟩ := h
    exact ⟨z ++ x, t, by simp, h⟩
theorem Dec.nilL {r : List (List Nat)} {m : List Nat} : Dec ([] :: r) m ↔ Dec r m := by
  constructor
  · rintro ⟨x, y, rfl, h⟩
    simpa using Dec.more x h
  · intro h; exact ⟨[], m, by simp, h⟩
theorem Dec.nilR : ∀ {r : List (List Nat)} {m : List Nat}, Dec (r ++ [[]]) m ↔ Dec r m
  | [], m => ⟨fun _ => trivial, fun _ => ⟨[], m, by simp, trivial⟩⟩
  | w :: r, m => by
    constructor
    · rintro ⟨x, y, rfl, h⟩; exact ⟨x, y, rfl, Dec.nilR.mp h⟩
    · rintro ⟨x, y, rfl, h⟩; exact ⟨x, y, rfl, Dec.nilR.mpr h⟩
theorem occ_to (x y : Str) (lo hi limit : Nat) (hl : 1 ≤ limit) :
    (occurrences x y lo hi limit = [] ∧ ∀ i, lo ≤ i → ¬ At x y hi i) ∨
    ∃ i r, occurrences x y lo hi limit = i :: r ∧ lo ≤ i ∧ At x y hi i ∧ ∀ k, lo ≤ k → k < i → ¬ At x y hi k := by
  rw [occ_eq]
  rcases occ_first x y hi limit hl (List.range' lo (hi + 1 - lo)) lo (fun i hi => by have := List.mem_range'_1.mp hi; exact z459 this) with ⟨h0, hn⟩ | ⟨pre, a, post, e, h0, ha, hn⟩
  · refine .inl ⟨by rw [h0], fun i hlo hi' => ?_⟩
    exact hn i (by have := hi'.1; rw [List.mem_range'_1]; exact z91 this hlo) hi'
  · have hs := range'_split_from e
    generalize (forIn (List.range' lo (hi + 1 - lo)) ((#[] : Array Nat), lo) (occBody x y hi limit)).run.fst = arr at h0 ⊢
    have h1 : arr.toList[0]? = some a := by simpa using h0
    obtain ⟨t, ht⟩ : ∃ t, arr.toList = a :: t := by
      cases hL : arr.toList with
      | nil => rw [hL] at h1; cases h1
      | cons b t => rw [hL] at h1; simp at h1; subst h1; exact ⟨t, rfl⟩
    exact .inr ⟨a, t, ht, hs.1, ha, fun k hk0 hk => hn k (hs.2 k hk0 hk)⟩
theorem at_S (g w : List Nat) (hi i : Nat) : At (S g) (S w) hi i ↔ i + w.length ≤ hi ∧ (g.drop i).take w.length = w := by
  unfold At
  rw [subAt_eq, S_list, S_list, S_len, beq_iff_eq]
/-- the first place from s on, up to e -/
theorem find_spec (g w : List Nat) (s e : Nat) (he : e ≤ g.length) :
    (find4 (S g) (S w) s e = -1 ∧ ∀ i, s ≤ i → i + w.length ≤ e → (g.drop i).take w.length ≠ w) ∨
    ∃ i : Nat, find4 (S g) (S w) s e = i ∧ s ≤ i ∧ i + w.length ≤ e ∧ (g.drop i).take w.length = w ∧ ∀ k, s ≤ k → k < i → (g.drop k).take w.length ≠ w := by
  have e1 : fromIndex (S g).length (s : Int) = s := by unfold fromIndex; split <;> (first | exact z505 ‹_› | exact z96 ‹_›)
  have e2 : min (fromIndex (S g).length (e : Int)) (S g).length = e := by
    rw [S_len]
    have : fromIndex g.length (e : Int) = e := by unfold fromIndex; split <;> (first | exact z505 ‹_› | exact z85)
    rw [this]; exact z128 this he
  unfold find4
  rw [e1, e2]
  rcases occ_to (S g) (S w) s e 1 (Nat.le_refl _) with ⟨h0, hn⟩ | ⟨i, r, h0, h1, h2, hn⟩
  · rw [h0]
    exact .inl ⟨rfl, fun i hi h he => hn i hi ((at_S g w e i).mpr ⟨h, he⟩)⟩
  · rw [h0]
    have h2 := (at_S g w e i).mp h2
    exact .inr ⟨i, rfl, h1, h2.1, h2.2, fun k hk hk' he => hn k hk hk' ((at_S g w e k).mpr ⟨by omega, he⟩)⟩
end
section
open PySem PySem.W PyProof.Rows
open Builtin Builtin.Str StrLaws
variable [Lo]
theorem loop_iff (g : List Nat) (e : Nat) (he : e ≤ g.length) : ∀ (ws : List (List Nat)) (s : Nat), s ≤ e → (loopM (S g) e s (ws.map S) = true ↔ Dec ws ((g.drop s).take (e - s)))
  | [], s, _ => by simp [loopM, Dec]
  | w :: r, s, hs => by
    rw [List.map_cons, loopM]
    have hseg : ∀ x y, (g.drop s).take (e - s) = x ++ w ++ y → s + x.length + w.length ≤ e ∧ (g.drop (s + x.length)).take w.length = w ∧ y = (g.drop (s + x.length + w.length)).take (e - (s + x.length + w.length)) := by
      intro x y h
      have hl : ((g.drop s).take (e - s)).length = x.length + w.length + y.length := by rw [h]; simp; exact z316
      rw [List.length_take, List.length_drop] at hl
      have hle : s + x.length + w.length ≤ e := by exact z24 hl he hs
      refine ⟨hle, ?_, ?_⟩
      · have h1 : ((g.drop s).take (e - s)).drop x.length = w ++ y := by rw [h, List.append_assoc, List.drop_left]
        rw [List.drop_take, List.drop_drop] at h1
        have h2 := congrArg (List.take w.length) h1
        rw [List.take_take, List.take_left] at h2
        rwa [Nat.min_eq_left (by exact z134 hle)] at h2
      · have h1 : ((g.drop s).take (e - s)).drop (x.length + w.length) = y := by
          rw [h, ← List.length_append, List.drop_left]
        rw [← h1, List.drop_take, List.drop_drop]
        congr 1
        · exact z18 hle
        · congr 1; exact z316
    rcases find_spec g w s e he with ⟨h0, hn⟩ | ⟨i, h0, h1, h2, h3, hn⟩
    · rw [h0, if_pos (by decide)]
      constructor
      · intro h; exact ft_ h
      · rintro ⟨x, y, h, _⟩
        have := hseg x y h
        exact absurd this.2.1 (hn _ (by exact z354) (by omega))
    · rw [h0, if_neg (by exact z485)]
      have hc : ((i : Int) + (S w).length) = ((i + w.length : Nat) : Int) := by rw [S_len]; exact z427
      rw [hc, loop_iff g e he r (i + w.length) (by omega)]
      constructor
      · intro h
        refine ⟨(g.drop s).take (i - s), (g.drop (i + w.length)).take (e - (i + w.length)), ?_, h⟩
        have e1 : (g.drop s).take (e - s) = (g.drop s).take (i - s) ++ (g.drop i).take (e - i) := by
          have h4 := (List.take_append_drop (i - s) ((g.drop s).take (e - s))).symm
          rw [List.take_take, List.drop_take, List.drop_drop, Nat.min_eq_left (by exact z58 hc h2 hs h1)] at h4
          rw [show e - s - (i - s) = e - i by exact z2 hc h2 h1, show s + (i - s) = i by exact z158 h1] at h4
          exact h4
        have e2 : (g.drop i).take (e - i) = w ++ (g.drop (i + w.length)).take (e - (i + w.length)) := by
          have h4 := (List.take_append_drop w.length ((g.drop i).take (e - i))).symm
          rw [List.take_take, List.drop_take, List.drop_drop, Nat.min_eq_left (by exact z92 hc h2), h3] at h4
          rw [show e - i - w.length = e - (i + w.length) by exact z436] at h4
          exact h4
        rw [e1, e2, List.append_assoc]
      · rintro ⟨x, y, h, hd⟩
        obtain ⟨g1, g2, g3⟩ := hseg x y h
        have hi : i ≤ s + x.length := by
          refine Classical.byContradiction fun hlt => ?_
          exact hn (s + x.length) (by exact z354) (by exact z350 hlt) g2
        have e1 : (g.drop (i + w.length)).take (e - (i + w.length)) = (g.drop (i + w.length)).take (s + x.length - i) ++ y := by
          have h4 := (List.take_append_drop (s + x.length - i) ((g.drop (i + w.length)).take (e - (i + w.length)))).symm
          rw [List.take_take, List.drop_take, List.drop_drop, Nat.min_eq_left (by exact z34 g1 hc h2 hi)] at h4
          rw [show e - (i + w.length) - (s + x.length - i) = e - (s + x.length + w.length) by exact z1 g1 hc hi, show i + w.length + (s + x.length - i) = s + x.length + w.length by exact z90 hi, ← g3] at h4
          exact h4
        rw [e1]
        exact Dec.more _ hd
theorem fin_iff (g : List Nat) (ws : List (List Nat)) (s e : Nat) (he : e ≤ g.length) : finM (S g) s e (ws.map S) = true ↔ s ≤ e ∧ Dec ws ((g.drop s).take (e - s)) := by
  unfold finM
  by_cases h : e < s
  · rw [if_pos (by exact z486 h)]
    constructor
    · intro h; exact ft_ h
    · rintro ⟨h', _⟩; omega
  · rw [if_neg (by exact z488 h), loop_iff g e he ws s (by exact z487 h)]
    constructor
    · intro h'; exact ⟨by exact z487 h, h'⟩
    · exact fun h' => h'.2
theorem tail_iff (g : List Nat) (pre : List (List Nat)) (w : List Nat) (s : Nat) (hs : s ≤ g.length) : tailM (S g) s (pre.map S) (S w) = true ↔ ∃ m, g.drop s = m ++ w ∧ Dec pre m := by
  unfold tailM
  rw [S_len, S_len]
  by_cases h : w.length = 0
  · rw [if_pos h]
    have hw : w = [] := List.length_eq_zero_iff.mp h
    subst hw
    have e1 : pre.map S ++ [S []] = (pre ++ [[]]).map S := by simp
    rw [e1, fin_iff g _ s g.length (Nat.le_refl _), Dec.nilR, List.take_of_length_le (by simp)]
    constructor
    · rintro ⟨_, h⟩; exact ⟨_, by simp, h⟩
    · rintro ⟨m, h1, h2⟩; rw [List.append_nil] at h1; subst h1; exact ⟨hs, h2⟩
  · rw [if_neg h]
    have hend : Txt.endswith (S g) (S w) = true ↔ w.length ≤ g.length ∧ g.drop (g.length - w.length) = w := by
      unfold Txt.endswith
      rw [subAt_eq, S_list, S_list, S_len, S_len, Bool.and_eq_true, decide_eq_true_iff, beq_iff_eq, List.take_of_length_le (by simp; exact z281)]
      simp
    by_cases he : Txt.endswith (S g) (S w) = true
    · rw [if_pos he]
      obtain ⟨h1, h2⟩ := hend.mp he
      have hc : ((g.length : Int) - w.length) = ((g.length - w.length : Nat) : Int) := by exact z239 h1
      rw [hc, fin_iff g pre s (g.length - w.length) (by exact z373 hc)]
      constructor
      · rintro ⟨h3, h4⟩
        refine ⟨_, ?_, h4⟩
        have h5 := (List.take_append_drop (g.length - w.length - s) (g.drop s)).symm
        rw [List.drop_drop, show s + (g.length - w.length - s) = g.length - w.length by exact z131 hc h3, h2] at h5
        exact h5
      · rintro ⟨m, h3, h4⟩
        have hl := congrArg List.length h3
        rw [List.length_drop, List.length_append] at hl
        refine ⟨by exact z112 hc hl hs, ?_⟩
        have : (g.drop s).take (g.length - w.length - s) = m := by
          rw [h3, show g.length - w.length - s = m.length by exact z30 hc hl hs, List.take_left]
        rw [this]; exact h4
    · rw [if_neg he]
      constructor
      · intro h; exact ft_ h
      · rintro ⟨m, h3, h4⟩
        refine absurd (hend.mpr ?_) he
        have hl := congrArg List.length h3
        rw [List.length_drop, List.length_append] at hl
        refine ⟨by exact z200 hl hs, ?_⟩
        have h5 : (g.drop s).drop m.length = w := by rw [h3, List.drop_left]
        rw [List.drop_drop, show s + m.length = g.length - w.length by exact z49 hl hs] at h5
        exact h5
theorem head_iff (g F : List Nat) (mid : List (List Nat)) (E : List Nat) : headM (S g) (S F) (mid.map S) (S E) = true ↔ Fits F mid E g := by
  unfold headM Fits
  rw [S_len]
  by_cases h : F.length = 0
  · rw [if_pos h]
    have hw : F = [] := List.length_eq_zero_iff.mp h
    subst hw
    have ht := tail_iff g ([] :: mid) E 0 (by exact z523)
    simp only [List.drop_zero, Dec.nilL] at ht
    rw [← List.map_cons]
    simp only [List.nil_append]
    exact ht
  · rw [if_neg h]
    have hst : Txt.startswith (S g) (S F) = true ↔ g.take F.length = F := by
      unfold Txt.startswith
      rw [subAt_eq, S_list, S_list, S_len, S_len, Bool.and_eq_true, decide_eq_true_iff, beq_iff_eq, List.drop_zero]
      constructor
      · exact fun h => h.2
      · intro h'
        refine ⟨?_, h'⟩
        have := congrArg List.length h'
        rw [List.length_take] at this
        exact z334 this
    by_cases he : Txt.startswith (S g) (S F) = true
    · rw [if_pos he]
      have h1 := hst.mp he
      have hl := congrArg List.length h1
      rw [List.length_take] at hl
      rw [tail_iff g mid E F.length (by exact z360 hl)]
      constructor
      · rintro ⟨m, h2, h3⟩
        refine ⟨m, ?_, h3⟩
        rw [List.append_assoc, ← h2]
        have := List.take_append_drop F.length g
        rw [h1] at this; exact this.symm
      · rintro ⟨m, h2, h3⟩
        refine ⟨m, ?_, h3⟩
        rw [h2, List.append_assoc, List.drop_left]
    · rw [if_neg he]
      constructor
      · intro h; exact ft_ h
      · rintro ⟨m, h2, _⟩
        refine absurd (hst.mpr ?_) he
        rw [h2, List.append_assoc, List.take_left]
end
section
open PySem PySem.W PyProof.Rows
open Builtin Builtin.Str StrLaws
variable [Lo]
theorem dots_eq : ("..." : Str) = S dots := by decide +kernel
theorem strSub_S (W : List Nat) (a c : Nat) : strSub (S W) a c = S ((W.drop a).take (c - a)) := by
  have h := strSub_toList (S W) a c
  rw [S_list] at h
  exact mk_of_toList h
theorem dots_at {W : List Nat} {i : Nat} (h : (W.drop i).take dots.length = dots) : W[i]? = some 46 := by
  have h1 := congrArg (fun l => l[0]?) h
  simp only [dots, List.length_cons, List.length_nil] at h1
  rw [List.getElem?_take] at h1
  simpa using h1
theorem parts_run (W : List Nat) : ∀ (ls : List (List Nat)) (a : Nat) (cuts : List Nat) (f : Nat), ls ≠ [] → (∀ l ∈ ls, 46 ∉ l) → W.drop a = joinL dots ls → a ≤ W.length → ChainG (S W) (S dots) W.length a cuts f → (∀ k, f ≤ k → ¬ At (S W) (S dots) W.length k) →
    partsFrom (S W) dots.length a cuts = ls.map S
  | [], _, _, _, h, _, _, _, _, _ => absurd rfl h
  | [l], a, cuts, f, _, hl, hW, ha, hc, hn => by
    have h46 : 46 ∉ l := hl l (.head _)
    have hW : W.drop a = l := hW
    cases cuts with
    | nil => rw [partsFrom, strSub_S, S_len, hW, List.take_of_length_le (by rw [← hW, List.length_drop]; exact z524)]; rfl
    | cons c r =>
      obtain ⟨h1, h2, _⟩ := hc
      have h2 := ((at_S W dots W.length c).mp h2).2
      have h3 := dots_at h2
      have h4 : (W.drop a)[c - a]? = some 46 := by rw [List.getElem?_drop, show a + (c - a) = c by exact z158 h1]; exact h3
      rw [hW] at h4
      exact absurd (List.mem_of_getElem? h4) h46
  | l :: l' :: r, a, cuts, f, _, hl, hW, ha, hc, hn => by
    have h46 : 46 ∉ l := hl l (.head _)
    have hW : W.drop a = l ++ dots ++ joinL dots (l' :: r) := hW
    have hlen := congrArg List.length hW
    rw [List.length_drop, List.length_append, List.length_append] at hlen
    have hd3 : dots.length = 3 := rfl
    have hAt : At (S W) (S dots) W.length (a + l.length) := by
      refine (at_S W dots W.length _).mpr ⟨by exact z120 hlen hd3 ha, ?_⟩
      rw [← List.drop_drop, hW, List.append_assoc, List.drop_left, List.take_left]
    cases cuts with
    | nil =>
      have hf : f = a := hc
      exact absurd hAt (hn _ (by exact z306 hf))
    | cons c r' =>
      obtain ⟨h1, h2, h3, h4⟩ := hc
      have h2' := ((at_S W dots W.length c).mp h2).2
      have hcl : c = a + l.length := by
        rcases Nat.lt_trichotomy c (a + l.length) with h | h | h
        · have h5 := dots_at h2'
          have h6 : (W.drop a)[c - a]? = some 46 := by rw [List.getElem?_drop, show a + (c - a) = c by exact z158 h1]; exact h5
          rw [hW, List.append_assoc, List.getElem?_append_left (by exact z184 h h1)] at h6
          exact absurd (List.mem_of_getElem? h6) h46
        · exact h
        · exact absurd hAt (h3 _ (by exact z354) h)
      subst hcl
      rw [S_len] at h4
      rw [partsFrom, strSub_S, show a + l.length - a = l.length by exact z94, hW, List.append_assoc, List.take_left]
      rw [parts_run W (l' :: r) (a + l.length + dots.length) r' f (by simp) (fun x hx => hl x (.tail _ hx)) ?_ (by exact z120 hlen hd3 ha) h4 hn]
      · rfl
      · rw [Nat.add_assoc, ← List.drop_drop, hW, ← List.length_append, List.drop_left]
theorem kind_pos (x : Str) : 1 ≤ Builtin.Str.strKind x := by unfold Builtin.Str.strKind; split <;> (try split) <;> (first | exact z560 | exact z561 | exact z562)
theorem joinL_cons (l l' : List Nat) (r : List (List Nat)) : joinL dots (l :: l' :: r) = l ++ dots ++ joinL dots (l' :: r) := rfl
theorem split_S (l l' : List Nat) (r : List (List Nat)) (hl : ∀ x ∈ l :: l' :: r, 46 ∉ x) : Txt.split (S (joinL dots (l :: l' :: r))) "..." = (l :: l' :: r).map S := by
  rw [dots_eq]
  generalize hW : joinL dots (l :: l' :: r) = W
  have hlen : l.length + 3 ≤ W.length := by rw [← hW, joinL_cons, List.length_append, List.length_append]; simp [dots] <;> omega
  have hd3 : dots.length = 3 := rfl
  obtain ⟨f, hG, hn⟩ := occ_tight (S W) (S dots) (by rw [S_len]; decide)
  rw [S_len] at hG hn
  have hparts := parts_run W (l :: l' :: r) 0 _ f (by simp) hl (by rw [List.drop_zero, hW]) (by exact z523) hG hn
  have hAt : At (S W) (S dots) W.length l.length := by
    refine (at_S W dots W.length _).mpr ⟨by exact z359 hlen hd3, ?_⟩
    rw [← hW, joinL_cons, List.append_assoc, List.drop_left, List.take_left]
  unfold Txt.split
  rw [if_neg, if_neg]
  · rw [S_len, S_len, partsBetween_eq]; exact hparts
  · rw [S_len]
    intro h
    rw [List.isEmpty_iff] at h
    rw [h] at hG
    have hf : f = 0 := hG
    exact hn _ (by exact z431 hf) hAt
  · rw [S_len, S_len]
    have h1 : Builtin.Str.strKind (S dots) = 1 := by decide +kernel
    have h2 := kind_pos (S W)
    simp only [Bool.or_eq_true, decide_eq_true_eq]
    exact z190 h2 hlen h1 hd3
theorem contains_S (W : List Nat) : Txt.contains (S W) "..." = true ↔ ∃ i, i + 3 ≤ W.length ∧ (W.drop i).take 3 = dots := by
  rw [dots_eq]
  unfold Txt.contains
  rw [found_iff]
  refine exists_congr fun i => ?_
  have := at_S W dots W.length i
  unfold At at this
  rw [S_len W]
  exact this
theorem contains_join (l l' : List Nat) (r : List (List Nat)) : Txt.contains (S (joinL dots (l :: l' :: r))) "..." = true := by
  rw [contains_S]
  refine ⟨l.length, ?_, ?_⟩
  · rw [joinL_cons, List.length_append, List.length_append]; simp [dots] <;> omega
  · rw [joinL_cons, List.append_assoc, List.drop_left]
    exact List.take_left (l₁ := dots)
theorem contains_free (F : List Nat) (h : 46 ∉ F) : Txt.contains (S F) "..." = false := by
  cases hc : Txt.contains (S F) "..." with
  | false => rfl
  | true =>
    obtain ⟨i, h1, h2⟩ := (contains_S F).mp hc
    exact absurd (List.mem_of_getElem? (dots_at h2)) h
end
section
open PySem PySem.W PyProof.Rows
variable [Lo]
set_option maxRecDepth 100000
/-- the exclusive cuts by one part more -/
theorem ex_cut (ns : List Int) (L : Int) (hL : (ns.length : Int) = L) (h2 : 2 ≤ L) (i : Int) (h0 : 0 ≤ i) (h1 : i < L) : exNum ns (L + 1) (1 + i) = at' ns i * (L + 1) := by
  have e1 : (1 + i) * (L + 1) / (L + 1) = 1 + i := Int.mul_ediv_cancel _ (by exact z521 h2)
  have hJ : exJ ns.length (L + 1) (1 + i) = if 1 + i > L - 1 then L - 1 else 1 + i := by
    unfold exJ
    rw [hL, e1, if_neg (by exact z363 h0 e1)]
  unfold exNum exDelta
  rw [hJ, hL]
  by_cases h : 1 + i > L - 1
  · rw [if_pos h]
    have hi : i = L - 1 := by exact z189 h h1 e1
    subst hi
    have e2 : (1 + (L - 1)) * (L + 1) - (L - 1) * (L + 1) = L + 1 := by rw [← Int.sub_mul]; rw [show 1 + (L - 1) - (L - 1) = 1 by exact z446, Int.one_mul]
    rw [e2, Int.sub_self, Int.mul_zero, Int.zero_add]
  · rw [if_neg h, Int.sub_self, Int.sub_zero, Int.mul_zero, Int.add_zero, show 1 + i - 1 = i by exact z462]
theorem ex_half (ns : List Int) (h2 : 2 ≤ ns.length) : exNum ns 2 1 = at' ns (((ns.length : Int) - 1) / 2) + at' ns ((ns.length : Int) / 2) := by
  have hJ : exJ ns.length 2 1 = ((ns.length : Int) + 1) / 2 := by
    unfold exJ
    rw [Int.one_mul, if_neg (by exact z309 h2), if_neg (by exact z264 h2)]
  unfold exNum exDelta
  rw [hJ, Int.one_mul]
  rcases (by exact z176 : (ns.length : Int) % 2 = 0 ∨ (ns.length : Int) % 2 = 1) with h | h
  · rw [show ((ns.length : Int) + 1) / 2 = (ns.length : Int) / 2 by exact z182 h, show (ns.length : Int) + 1 - (ns.length : Int) / 2 * 2 = 1 by exact z271 h, show (ns.length : Int) / 2 - 1 = ((ns.length : Int) - 1) / 2 by exact z143 h]
    omega
  · rw [show (ns.length : Int) + 1 - ((ns.length : Int) + 1) / 2 * 2 = 0 by exact z135 h, show ((ns.length : Int) + 1) / 2 - 1 = ((ns.length : Int) - 1) / 2 by exact z77 h, show (ns.length : Int) / 2 = ((ns.length : Int) - 1) / 2 by exact z142 h]
    omega
theorem in_half (ns : List Int) (h2 : 2 ≤ ns.length) : inNum ns 2 1 = at' ns (((ns.length : Int) - 1) / 2) + at' ns ((ns.length : Int) / 2) := by
  unfold inNum
  rw [Int.one_mul]
  rcases (by exact z176 : (ns.length : Int) % 2 = 0 ∨ (ns.length : Int) % 2 = 1) with h | h
  · rw [show ((ns.length : Int) - 1) % 2 = 1 by exact z179 h, show ((ns.length : Int) - 1) / 2 + 1 = (ns.length : Int) / 2 by exact z186 h]
    omega
  · rw [show ((ns.length : Int) - 1) % 2 = 0 by exact z164 h, show (ns.length : Int) / 2 = ((ns.length : Int) - 1) / 2 by exact z142 h]
    omega
theorem at_in (ns : List Int) (hb : ∀ x ∈ ns, 0 ≤ x ∧ x ≤ 8) (i : Int) : 0 ≤ at' ns i ∧ at' ns i ≤ 8 := by
  unfold at'
  rw [List.getD]
  cases hq : ns[i.toNat]? with
  | none => decide
  | some v => exact hb v (List.mem_of_getElem? hq)
theorem srt_in {ns : List Int} (hb : ∀ x ∈ ns, 0 ≤ x ∧ x ≤ 8) : ∀ x ∈ srt ns, 0 ≤ x ∧ x ≤ 8 := fun x hx => hb x ((srt_perm ns).mem_iff.mp hx)
section
variable {prog : Program} {w : World} {P : Params} {L : Lays P} {X : Heap → Prop} {hX : ∀ h h', Keep h h' → X h → X h'} {n : Nat}
theorem g_quant (ns : List Int) (h1 : 2 ≤ ns.length) (h2 : ns.length ≤ 8) (hb : ∀ x ∈ ns, 0 ≤ x ∧ x ≤ 8) : Fn (theCfg prog w P L X hX none) (n + 1) (.ref 84) [LI ns] [("n", .int (ns.length + 1))] (.list ((srt ns).map fun x => .flt (2 * x))) := by
  have e : (srt ns).map (fun x => D.flt (2 * x)) = (List.range ((ns.length : Int) + 1 - 1).toNat).map fun i => .flt (2 * at' (srt ns) i) := by
    have hl := srt_length ns
    refine List.ext_getElem (by simp [hl]) fun i h3 h4 => ?_
    simp only [List.length_map] at h3
    simp only [List.getElem_map, List.getElem_range, at', Int.toNat_natCast, List.getD, List.getElem?_eq_getElem h3, Option.getD_some]
  rw [e]
  refine f_quant ns _ (fun i => 2 * at' (srt ns) i) h1 (by exact z502 h1 h2) (by exact z447 h1 h2) (by exact z460 h1 h2) (fun x hx => by have := hb x hx; exact z368 this) fun i hi => ?_
  have hq := ex_cut (srt ns) ns.length (by rw [srt_length]) (by exact z466 h1 h2) i (by exact z474) (by exact z465 hi)
  refine ⟨by rw [hq, Int.mul_assoc], ?_⟩
  have := at_in (srt ns) (srt_in hb) i
  exact z174 this
theorem half_eq (ns : List Int) (h1 : 2 ≤ ns.length) : at' (srt ns) (((srt ns).length - 1 : Int) / 2) + at' (srt ns) ((srt ns).length / 2 : Int) = midLow ns + midHigh ns := by
  rw [midLow_at ns ns.length rfl (by exact z514 h1), midHigh_at ns ns.length rfl, srt_length]
theorem g_quant2 (ns : List Int) (h1 : 2 ≤ ns.length) (h2 : ns.length ≤ 8) (hb : ∀ x ∈ ns, 0 ≤ x ∧ x ≤ 8) : Fn (theCfg prog w P L X hX none) (n + 1) (.ref 84) [LI ns] [("n", .int 2)] (.list [.flt (midLow ns + midHigh ns)]) := by
  refine f_quant ns 2 (fun _ => midLow ns + midHigh ns) h1 (by exact z502 h1 h2) (by exact z558) (by exact z559) (fun x hx => by have := hb x hx; exact z368 this) fun i hi => ?_
  obtain rfl : i = 0 := by exact z374 hi
  have hq := ex_half (srt ns) (by rw [srt_length]; exact h1)
  rw [half_eq ns h1] at hq
  refine ⟨by show 2 * exNum (srt ns) 2 1 = _; rw [hq, Int.mul_comm], ?_⟩
  have a1 := at_in (srt ns) (srt_in hb) ((ns.length - 1 : Int) / 2)
  have a2 := at_in (srt ns) (srt_in hb) (ns.length / 2 : Int)
  rw [← midLow_at ns ns.length rfl (by exact z457 h1 h2)] at a1
  rw [← midHigh_at ns ns.length rfl] at a2
  exact z129 a1 a2
theorem g_quant2i (ns : List Int) (h1 : 2 ≤ ns.length) (h2 : ns.length ≤ 8) (hb : ∀ x ∈ ns, 0 ≤ x ∧ x ≤ 8) : Fn (theCfg prog w P L X hX none) (n + 1) (.ref 84) [LI ns] [("n", .int 2), ("method", .str "inclusive")] (.list [.flt (midLow ns + midHigh ns)]) := by
  refine f_quantIn ns 2 (fun _ => midLow ns + midHigh ns) h1 (by exact z502 h1 h2) (by exact z558) (by exact z559) (fun x hx => by have := hb x hx; exact z368 this) fun i hi => ?_
  obtain rfl : i = 0 := by exact z374 hi
  have hq := in_half (srt ns) (by rw [srt_length]; exact h1)
  rw [half_eq ns h1] at hq
  refine ⟨by show 2 * inNum (srt ns) 2 1 = _; rw [hq, Int.mul_comm], ?_⟩
  have a1 := at_in (srt ns) (srt_in hb) ((ns.length - 1 : Int) / 2)
  have a2 := at_in (srt ns) (srt_in hb) (ns.length / 2 : Int)
  rw [← midLow_at ns ns.length rfl (by exact z457 h1 h2)] at a1
  rw [← midHigh_at ns ns.length rfl] at a2
  exact z129 a1 a2
theorem g_dotted (F : List Nat) (ps : List (List Nat)) (E g : List Nat) (b : Bool) (hF : 46 ∉ F) (hp : ∀ p ∈ ps, 46 ∉ p) (hE : 46 ∉ E) (hl : ps.length ≤ 8) (hx : ∀ p ∈ F :: (ps ++ [E]), p.length ≤ 8) (hb : b = true ↔ Fits F ps E g) :
    Fn (theCfg prog w P L X hX none) (n + 1) (.ref 49) [.str (S (joinL dots (F :: (ps ++ [E])))), .str (S g)] [] (.bool b) := by
  have eb : b = headM (S g) (S F) (ps.map S) (S E) := by
    have h := head_iff g F ps E
    rw [← h] at hb
    cases b <;> cases hh : headM (S g) (S F) (ps.map S) (S E) <;> simp_all
  rw [eb]
  have hall : ∀ x ∈ F :: (ps ++ [E]), 46 ∉ x := fun x hx => by
    simp only [List.mem_cons, List.mem_append, List.not_mem_nil, or_false] at hx
    rcases hx with rfl | hx | rfl
    · exact hF
    · exact hp x hx
    · exact hE
  obtain ⟨l', r, e⟩ : ∃ l' r, ps ++ [E] = l' :: r := by
    cases hq : ps ++ [E] with
    | nil => simp at hq
    | cons l' r => exact ⟨l', r, rfl⟩
  have e2 : (F :: (ps ++ [E])).map S = S F :: (ps.map S ++ [S E]) := by simp
  refine f_match _ _ _ _ _ ?_ ?_ (by rw [List.length_map]; exact z520 hl) ?_
  · rw [e]; exact contains_join F l' r
  · rw [← e2, e]
    exact split_S F l' r (by rw [← e]; exact hall)
  · rw [← e2]
    intro z hz
    obtain ⟨l, hl', rfl⟩ := List.mem_map.mp hz
    rw [S_len]
    have := hx l hl'
    simp only [lim]; exact z500 this
theorem g_plain (F g : List Nat) (hF : 46 ∉ F) : Fn (theCfg prog w P L X hX none) (n + 1) (.ref 49) [.str (S F), .str (S g)] [] (.bool (decide (F = g))) := by
  rw [← S_dec]
  exact f_plain _ _ (contains_free F hF)
end
end
section
open PySem PySem.W PyProof.Rows
variable [Lo]
set_option maxRecDepth 100000
theorem sum_mul (c : Int) (xs : List Int) : (xs.map fun x => c * x).sum = c * xs.sum := by
  induction xs with
  | nil => simp
  | cons x r ih => simp only [List.map_cons, List.sum_cons, ih, Int.mul_add]
theorem sum_bounds (xs : List Int) (hb : ∀ x ∈ xs, 0 ≤ x ∧ x ≤ 8) : 0 ≤ xs.sum ∧ xs.sum ≤ 8 * xs.length := by
  induction xs with
  | nil => simp
  | cons x r ih =>
    have h1 := hb x (.head _)
    have h2 := ih fun y hy => hb y (.tail _ hy)
    simp only [List.sum_cons, List.length_cons]
    exact z209 h2 h1
/-- the sum of products of two columns' turns from their means -/
theorem turns_sum (A B k : Int) : ∀ ps qs : List Int, ps.length = qs.length → ((ps.zip qs).map fun x => (k * x.1 - A) * (k * x.2 - B)).sum = k * k * dot ps qs - k * B * ps.sum - k * A * qs.sum + ps.length * (A * B)
  | [], [], _ => by simp [dot]
  | p :: ps, q :: qs, h => by
    have ih := turns_sum A B k ps qs (by simpa using h)
    unfold dot at ih ⊢
    simp only [List.zip_cons_cons, List.map_cons, List.sum_cons, List.length_cons, ih]
    have e1 : (k * p - A) * (k * q - B) = k * k * (p * q) - k * B * p - k * A * q + A * B := by
      simp only [Int.sub_mul, Int.mul_sub, Int.mul_assoc, Int.mul_comm, Int.mul_left_comm]; exact z69
    rw [e1]
    have e2 : ((ps.length + 1 : Nat) : Int) * (A * B) = ps.length * (A * B) + A * B := by rw [show ((ps.length + 1 : Nat) : Int) = (ps.length : Int) + 1 by exact z324, Int.add_mul, Int.one_mul]
    rw [e2]
    simp only [Int.mul_add]
    exact z61
theorem turns_bound (ps qs : List Int) (h : ps.length = qs.length) : ((ps.zip qs).map fun x => ((ps.length : Int) * x.1 - ps.sum) * ((ps.length : Int) * x.2 - qs.sum)).sum = bound ps qs := by
  rw [turns_sum _ _ _ ps qs h]
  unfold bound
  generalize (ps.length : Int) = k
  generalize ps.sum = A
  generalize qs.sum = B
  generalize dot ps qs = d
  simp only [Int.mul_sub, Int.mul_assoc, Int.mul_comm, Int.mul_left_comm]
  exact z388
section
variable {prog : Program} {w : World} {P : Params} {L : Lays P} {X : Heap → Prop} {hX : ∀ h h', Keep h h' → X h → X h'} {n : Nat}
theorem g_cov (ps qs : List Int) (k : Int) (xs ys : List D) (hp : (ps.length : Int) = k) (hq : (qs.length : Int) = k) (h2 : 2 ≤ k) (h8 : k ≤ 8) (bp : ∀ x ∈ ps, 0 ≤ x ∧ x ≤ 8) (bq : ∀ x ∈ qs, 0 ≤ x ∧ x ≤ 8)
    (hx : xs.map dbl = ps.map fun p => 2 * (k * (k - 1) * p)) (hy : ys.map dbl = qs.map fun q => 2 * (k * q)) (nx : ∀ d ∈ xs, isNum d = true) (ny : ∀ d ∈ ys, isNum d = true) :
    Fn (theCfg prog w P L X hX none) (n + 2) (.ref 91) [.list xs, .list ys] [] (.flt (2 * bound ps qs)) := by
  have lx : xs.length = ps.length := by have := congrArg List.length hx; simpa using this
  have ly : ys.length = qs.length := by have := congrArg List.length hy; simpa using this
  have sp := sum_bounds ps bp
  have sq := sum_bounds qs bq
  have hk1 : 0 ≤ k - 1 ∧ k - 1 ≤ 7 := by exact z88 h2 hp hq lx ly h8
  have hkk : 0 ≤ k * (k - 1) ∧ k * (k - 1) ≤ 56 := ⟨Int.mul_nonneg (by exact z122 h2 hp hq lx ly h8) (by exact z123 h2 hp hq lx ly h8), by
    have := Int.mul_le_mul (a := k) (b := k - 1) (c := 8) (d := 7) h8 (by exact z136 h2 hp hq lx ly h8) (by exact z123 h2 hp hq lx ly h8) (by exact z546)
    exact z424 this⟩
  have bx : ∀ d ∈ xs, (dbl d).natAbs ≤ 2 ^ 40 := fun d hd => by
    have : dbl d ∈ xs.map dbl := List.mem_map_of_mem hd
    rw [hx] at this
    obtain ⟨p, hp', e⟩ := List.mem_map.mp this
    rw [← e]
    have b1 := bp p hp'
    have := Int.mul_le_mul (a := k * (k - 1)) (b := p) (c := 56) (d := 8) hkk.2 b1.2 b1.1 (by exact z545)
    have := Int.mul_nonneg hkk.1 b1.1
    exact z98 this ‹_›
  have byb : ∀ d ∈ ys, (dbl d).natAbs ≤ 2 ^ 40 := fun d hd => by
    have : dbl d ∈ ys.map dbl := List.mem_map_of_mem hd
    rw [hy] at this
    obtain ⟨p, hp', e⟩ := List.mem_map.mp this
    rw [← e]
    have b1 := bq p hp'
    have := Int.mul_le_mul (a := k) (b := p) (c := 8) (d := 8) h8 b1.2 b1.1 (by exact z546)
    have := Int.mul_nonneg (a := k) (b := p) (by exact z122 h2 hp hq lx ly h8) b1.1
    exact z104 this ‹_›
  have hB : (2 * bound ps qs).natAbs < 2 ^ 53 := by
    have hd : 0 ≤ dot ps qs ∧ dot ps qs ≤ 64 * (ps.zip qs).length := by
      unfold dot
      have hz : ∀ x ∈ ps.zip qs, 0 ≤ x.1 * x.2 ∧ x.1 * x.2 ≤ 64 := fun x hx => by
        obtain ⟨p, q⟩ := x
        have h3 := List.of_mem_zip hx
        have b1 := bp _ h3.1
        have b2 := bq _ h3.2
        have m1 := Int.mul_le_mul (a := p) (b := q) (c := 8) (d := 8) b1.2 b2.2 b2.1 (by exact z546)
        exact ⟨Int.mul_nonneg b1.1 b2.1, by simpa using m1⟩
      generalize ps.zip qs = z at hz
      induction z with
      | nil => simp
      | cons x r ih =>
        have h1 := hz x (.head _)
        have h2 := ih fun y hy => hz y (.tail _ hy)
        simp only [List.map_cons, List.sum_cons, List.length_cons]
        exact z67 h2 h1
    have hzl : (ps.zip qs).length ≤ 8 := by rw [List.length_zip]; exact z60 h2 hp hq lx ly h8
    have hss := Int.mul_le_mul (a := ps.sum) (b := qs.sum) (c := 64) (d := 64) (by exact z84 sp h2 hp hq lx ly h8) (by exact z93 sq h2 hp hq lx ly h8) sq.1 (by exact z547)
    have hs0 := Int.mul_nonneg sp.1 sq.1
    have hkd := Int.mul_le_mul (a := k) (b := dot ps qs) (c := 8) (d := 512) h8 (by exact z210 hd hzl) hd.1 (by exact z546)
    have hkd0 := Int.mul_nonneg (a := k) (b := dot ps qs) (by exact z122 h2 hp hq lx ly h8) hd.1
    unfold bound
    rw [hp, ← Int.mul_assoc, Int.natAbs_mul]
    have h1 : (2 * k).natAbs ≤ 16 := by exact z48 h2 hp hq lx ly h8
    have h2 : (k * dot ps qs - ps.sum * qs.sum).natAbs ≤ 8192 := by exact z47 hs0 hkd0 hss hkd
    exact Nat.lt_of_le_of_lt (Nat.mul_le_mul h1 h2) (by decide)
  have hm : ∀ (f : Int × Int → Int), (ps.zip qs).map (fun x => 2 * (k - 1) * f x) = ((ps.zip qs).map f).map fun x => 2 * (k - 1) * x := fun f => by rw [List.map_map]; rfl
  refine f_cov xs ys ((ps.zip qs).map fun x => 2 * (k - 1) * ((k * x.1 - ps.sum) * (k * x.2 - qs.sum))) (2 * (k - 1) * ps.sum) (2 * qs.sum) (2 * bound ps qs) (fun d hd => ⟨nx d hd, bx d hd⟩) (fun d hd => ⟨ny d hd, byb d hd⟩) (by exact z139 h2 hp hq lx ly h8) (by simp only [lim]; exact z154 h2 hp hq lx ly h8) (by exact z185 hp hq lx ly) (by rw [List.length_map, List.length_zip]; exact z59 hp hq lx ly) ?_ ?_ ?_ ?_ ?_ ?_ ?_ ?_
  · have : ps.map (fun p => 2 * (k * (k - 1) * p)) = ps.map fun p => (2 * (k * (k - 1))) * p := List.map_congr_left fun p _ => by grind
    rw [hx, this, sum_mul, lx, hp]
    simp only [Int.mul_assoc, Int.mul_comm, Int.mul_left_comm]
  · have : qs.map (fun p => 2 * (k * p)) = qs.map fun p => (2 * k) * p := List.map_congr_left fun p _ => by rw [Int.mul_assoc]
    rw [hy, this, sum_mul, lx, hp]
    simp only [Int.mul_assoc, Int.mul_comm, Int.mul_left_comm]
  · rw [Int.natAbs_mul]
    have h1 : (2 * (k - 1)).natAbs ≤ 14 := by exact z39 h2 hp hq lx ly h8
    have h2 : ps.sum.natAbs ≤ 64 := by exact z42 sp h2 hp hq lx ly h8
    exact Nat.le_trans (Nat.mul_le_mul h1 h2) (by decide)
  · exact z40 sq h2 hp hq lx ly h8
  · intro j hj
    obtain ⟨⟨p, q⟩, hpq, rfl⟩ := List.mem_map.mp hj
    have h3 := List.of_mem_zip hpq
    have b1 := bp _ h3.1
    have b2 := bq _ h3.2
    have m1 := Int.mul_le_mul (a := k) (b := p) (c := 8) (d := 8) h8 b1.2 b1.1 (by exact z546)
    have m2 := Int.mul_nonneg (a := k) (b := p) (by exact z122 h2 hp hq lx ly h8) b1.1
    have m3 := Int.mul_le_mul (a := k) (b := q) (c := 8) (d := 8) h8 b2.2 b2.1 (by exact z546)
    have m4 := Int.mul_nonneg (a := k) (b := q) (by exact z122 h2 hp hq lx ly h8) b2.1
    rw [Int.natAbs_mul, Int.natAbs_mul (k * (p, q).1 - ps.sum)]
    have h4 : (2 * (k - 1)).natAbs ≤ 14 := by exact z39 h2 hp hq lx ly h8
    have h5 : (k * p - ps.sum).natAbs ≤ 64 := by exact z17 sp m2 h2 hp hq lx ly m1 h8
    have h6 : (k * q - qs.sum).natAbs ≤ 64 := by exact z15 sq m4 h2 hp hq lx ly m3 h8
    exact Nat.le_trans (Nat.mul_le_mul h4 (Nat.mul_le_mul h5 h6)) (by decide)
  · intro i d e j hd he hj
    have hd' : (xs.map dbl)[i]? = some (dbl d) := by rw [List.getElem?_map, hd]; rfl
    have he' : (ys.map dbl)[i]? = some (dbl e) := by rw [List.getElem?_map, he]; rfl
    rw [hx, List.getElem?_map] at hd'
    rw [hy, List.getElem?_map] at he'
    rw [List.getElem?_map] at hj
    cases hp' : ps[i]? with
    | none => rw [hp'] at hd'; cases hd'
    | some p =>
      cases hq' : qs[i]? with
      | none => rw [hq'] at he'; cases he'
      | some q =>
        have hz : (ps.zip qs)[i]? = some (p, q) := by rw [List.getElem?_zip_eq_some]; exact ⟨hp', hq'⟩
        rw [hp'] at hd'; rw [hq'] at he'; rw [hz] at hj
        simp only [Option.map_some, Option.some.injEq] at hd' he' hj
        rw [← hd', ← he', ← hj]
        generalize ps.sum = A
        generalize qs.sum = B
        have e1 : 2 * (k * (k - 1) * p) - 2 * (k - 1) * A = (2 * (k - 1)) * (k * p - A) := by
          grind
        have e2 : 2 * (k * q) - 2 * B = 2 * (k * q - B) := by rw [Int.mul_sub]
        rw [e1, e2]
        simp only [Int.mul_assoc, Int.mul_comm, Int.mul_left_comm]
  · rw [hm, sum_mul]
    have := turns_bound ps qs (by exact z308 hp hq)
    rw [hp] at this
    rw [this, lx, hp]
    simp only [Int.mul_assoc, Int.mul_comm, Int.mul_left_comm]
  · exact hB
end
end
section
open PySem PySem.W PyProof.Rows
variable [Lo]
set_option maxRecDepth 100000
section
variable {prog : Program} {w : World} {P : Params} {L : Lays P} {X : Heap → Prop} {hX : ∀ h h', Keep h h' → X h → X h'} {n : Nat}
theorem theFns : Fns (theCfg prog w P L X hX none) (n + 2) where
  text := f_text (n := n + 1)
  draws := f_draws (n := n + 1)
  rows := f_rows (n := n + 1)
  blot := f_blot (n := n + 1)
  dotted := g_dotted (n := n + 1)
  plain := g_plain (n := n + 1)
  low := f_low (n := n + 1)
  high := f_high (n := n + 1)
  quant := g_quant (n := n + 1)
  quant2 := g_quant2 (n := n + 1)
  quant2i := g_quant2i (n := n + 1)
  covI := fun ps qs k hp hq h2 h8 bp bq => g_cov (n := n) ps qs k _ _ hp hq h2 h8 bp bq (by rw [List.map_map]; rfl) (by rw [List.map_map]; rfl) (fun d hd => by obtain ⟨_, _, rfl⟩ := List.mem_map.mp hd; rfl) (fun d hd => by obtain ⟨_, _, rfl⟩ := List.mem_map.mp hd; rfl)
  covF := fun ps qs k hp hq h2 h8 bp bq => g_cov (n := n) ps qs k _ _ hp hq h2 h8 bp bq
    (by rw [List.map_map]; refine List.map_congr_left fun p _ => ?_; show k * (k - 1) * (2 * p) = 2 * (k * (k - 1) * p); rw [Int.mul_left_comm])
    (by rw [List.map_map]; refine List.map_congr_left fun p _ => ?_; show k * (2 * p) = 2 * (k * p); rw [Int.mul_left_comm])
    (fun d hd => by obtain ⟨_, _, rfl⟩ := List.mem_map.mp hd; rfl) (fun d hd => by obtain ⟨_, _, rfl⟩ := List.mem_map.mp hd; rfl)
  bound := f_bound (n := n + 1)
end
end
section
open PySem PySem.W PyProof.Rows
variable [Lo]
/-- a piece of a text by its ends -/
noncomputable def seg (T : List Nat) (i j : Nat) : List Nat := (T.drop i).take (j - i)
theorem seg_len (T : List Nat) (i j : Nat) (h : j ≤ T.length) : (seg T i j).length = j - i := by
  unfold seg; rw [List.length_take, List.length_drop]; exact z19 h
theorem seg_cat (T : List Nat) {i j k : Nat} (h1 : i ≤ j) (h2 : j ≤ k) : seg T i k = seg T i j ++ seg T j k := by
  unfold seg
  have h4 := (List.take_append_drop (j - i) ((T.drop i).take (k - i))).symm
  rw [List.take_take, List.drop_take, List.drop_drop, Nat.min_eq_left (by exact z124 h1 h2), show i + (j - i) = j by exact z158 h1, show k - i - (j - i) = k - j by exact z13 h1 h2] at h4
  exact h4
theorem seg_all (T : List Nat) : seg T 0 T.length = T := by simp [seg]
theorem seg_cut (T : List Nat) {i k : Nat} (hk : k ≤ T.length) {x w y : List Nat} (h : seg T i k = x ++ w ++ y) (hi : i ≤ k) :
    i + x.length + w.length ≤ k ∧ seg T (i + x.length) (i + x.length + w.length) = w ∧ seg T (i + x.length + w.length) k = y := by
  have hl := congrArg List.length h
  rw [seg_len T i k hk, List.length_append, List.length_append] at hl
  have hle : i + x.length + w.length ≤ k := by exact z132 hl hi
  have h1 := seg_cat T (i := i) (j := i + x.length) (k := k) (by exact z354) (by exact z299 hle)
  have h2 := seg_cat T (i := i + x.length) (j := i + x.length + w.length) (k := k) (by exact z383) (by omega)
  rw [h2, h, List.append_assoc] at h1
  have l1 := seg_len T i (i + x.length) (by exact z254 hle hk)
  have h3 := List.append_inj h1 (by rw [l1]; exact z149)
  have l2 := seg_len T (i + x.length) (i + x.length + w.length) (by exact z301 hle hk)
  have h4 := List.append_inj h3.2 (by rw [l2]; exact z111)
  exact ⟨hle, h4.1.symm, h4.2.symm⟩
theorem slc_seg (T : List Nat) (i j : Nat) : slc (some (i : Int)) (some (j : Int)) T = seg T i j := slc_mid T i j
theorem slc_to (T : List Nat) (j : Nat) : slc none (some (j : Int)) T = seg T 0 j := by rw [slc_take]; simp [seg]
theorem slc_from (T : List Nat) (i : Nat) : slc (some (i : Int)) none T = seg T i T.length := by
  rw [slc_drop]; unfold seg; rw [List.take_of_length_le (by simp)]
theorem Dec.sub : ∀ {ws : List (List Nat)} {m : List Nat}, (∀ w ∈ ws, 126 ∉ w) → Dec ws m → ws.flatten.Sublist (m.filter (· != 126))
  | [], m, _, _ => by simp
  | w :: r, m, hw, h => by
    obtain ⟨x, y, rfl, h⟩ := h
    have ih := Dec.sub (fun u hu => hw u (.tail _ hu)) h
    have hself : w.filter (· != 126) = w := List.filter_eq_self.mpr fun a ha => by
      have := hw w (.head _)
      simp only [bne_iff_ne, ne_eq]
      rintro rfl
      exact this ha
    rw [List.flatten_cons, List.filter_append, List.filter_append, hself, List.append_assoc]
    exact (List.Sublist.append (List.Sublist.refl w) ih).trans (List.sublist_append_right _ _)
/-- the rows' text, blotted -/
theorem blot_eq (T : List Nat) (hT : T.length = 8) (f p a q b r c s : Nat) (h1 : f ≤ p) (h2 : p + a ≤ q) (h3 : q + b ≤ r) (h4 : r + c ≤ s) (h5 : s ≤ 8) :
    blotOf T [(p : Int), q, r] f [(a : Int), b, c] s = seg T 0 f ++ (List.replicate (p - f) 126 ++ seg T p (p + a) ++ List.replicate (q - (p + a)) 126 ++ seg T q (q + b) ++ List.replicate (r - (q + b)) 126 ++ seg T r (r + c) ++ List.replicate (s - (r + c)) 126) ++ seg T s 8 := by
  unfold blotOf
  simp only [List.zip_cons_cons, List.zip_nil_left, blotFold, blotStep]
  have t1 : ∀ (acc : List Nat) (x n : Nat), acc.length = n → n ≤ x → tildes ((x : Int) - acc.length) = List.replicate (x - n) 126 := fun acc x n hl hx => by
    unfold tildes; congr 1; exact z4 hl hx
  have e0 : slc none (some (f : Int)) T = seg T 0 f := slc_to T f
  have c1 : ∀ x y : Nat, slc (some (x : Int)) (some ((x : Int) + (y : Int))) T = seg T x (x + y) := fun x y => by rw [← Int.natCast_add]; exact slc_seg T x (x + y)
  rw [e0, c1, c1, c1, slc_from, hT]
  have l0 : (seg T 0 f).length = f := by rw [seg_len T 0 f (by exact z66 h2 h3 h4 hT h5 h1)]; exact z187
  have la : (seg T p (p + a)).length = a := by rw [seg_len T p _ (by exact z76 h2 h3 h4 hT h5)]; exact z94
  have lb : (seg T q (q + b)).length = b := by rw [seg_len T q _ (by exact z106 h3 h4 hT h5)]; exact z94
  have lc : (seg T r (r + c)).length = c := by rw [seg_len T r _ (by exact z206 h4 hT h5)]; exact z94
  rw [t1 (seg T 0 f) p f l0 h1]
  generalize hA1 : seg T 0 f ++ List.replicate (p - f) 126 ++ seg T p (p + a) = A1
  have lA1 : A1.length = p + a := by rw [← hA1]; simp only [List.length_append, List.length_replicate, l0, la]; exact z51 l0 h1
  rw [t1 A1 q (p + a) lA1 h2]
  generalize hA2 : A1 ++ List.replicate (q - (p + a)) 126 ++ seg T q (q + b) = A2
  have lA2 : A2.length = q + b := by rw [← hA2]; simp only [List.length_append, List.length_replicate, lA1, lb]; exact z14 h2 lA1 la
  rw [t1 A2 r (q + b) lA2 h3]
  generalize hA3 : A2 ++ List.replicate (r - (q + b)) 126 ++ seg T r (r + c) = A3
  have lA3 : A3.length = r + c := by rw [← hA3]; simp only [List.length_append, List.length_replicate, lA2, lc]; exact z14 h3 lA2 lb
  rw [t1 A3 s (r + c) lA3 h4, ← hA3, ← hA2, ← hA1]
  simp only [List.append_assoc]
theorem fits_between {F E g x y z : List Nat} {ps : List (List Nat)} (hg : g = x ++ y ++ z) (hx : x.length = F.length) (hz : z.length = E.length) : Fits F ps E g ↔ x = F ∧ z = E ∧ Dec ps y := by
  constructor
  · rintro ⟨m, h, hd⟩
    rw [hg] at h
    have hl := congrArg List.length h
    simp only [List.length_append] at hl
    have h1 := List.append_inj h (by simp only [List.length_append]; exact z127 hl hx hz)
    have h2 := List.append_inj h1.1 hx
    exact ⟨h2.1, h1.2, h2.2 ▸ hd⟩
  · rintro ⟨rfl, rfl, hd⟩
    exact ⟨y, hg, hd⟩
theorem filter_blot (A B C : List Nat) (n1 n2 n3 n4 : Nat) (hA : 126 ∉ A) (hB : 126 ∉ B) (hC : 126 ∉ C) :
    (List.replicate n1 126 ++ A ++ List.replicate n2 126 ++ B ++ List.replicate n3 126 ++ C ++ List.replicate n4 126).filter (· != 126) = A ++ B ++ C := by
  have hs : ∀ w : List Nat, 126 ∉ w → w.filter (· != 126) = w := fun w hw => List.filter_eq_self.mpr fun a ha => by
    simp only [bne_iff_ne, ne_eq]; rintro rfl; exact hw ha
  have hr : ∀ n, (List.replicate n 126).filter (· != 126) = [] := fun n => by simp
  simp only [List.filter_append, hs A hA, hs B hB, hs C hC, hr, List.nil_append, List.append_nil, List.append_assoc]
theorem dec_blot (A B C P0 P1 P2 : List Nat) (n1 n2 n3 n4 : Nat) (hA : 126 ∉ A) (hB : 126 ∉ B) (hC : 126 ∉ C) (h0 : 126 ∉ P0) (h1 : 126 ∉ P1) (h2 : 126 ∉ P2) (lA : A.length = P0.length) (lB : B.length = P1.length) (lC : C.length = P2.length) :
    Dec [P0, P1, P2] (List.replicate n1 126 ++ A ++ List.replicate n2 126 ++ B ++ List.replicate n3 126 ++ C ++ List.replicate n4 126) ↔ A = P0 ∧ B = P1 ∧ C = P2 := by
  constructor
  · intro h
    have hs := Dec.sub (by intro w hw; simp at hw; rcases hw with rfl | rfl | rfl <;> assumption) h
    rw [filter_blot A B C _ _ _ _ hA hB hC] at hs
    have he := hs.eq_of_length (by simp [lA, lB, lC])
    have he : P0 ++ (P1 ++ P2) = A ++ (B ++ C) := by simpa using he
    have e1 := List.append_inj he lA.symm
    have e2 := List.append_inj e1.2 lB.symm
    exact ⟨e1.1.symm, e2.1.symm, e2.2.symm⟩
  · rintro ⟨rfl, rfl, rfl⟩
    exact ⟨List.replicate n1 126, List.replicate n2 126 ++ B ++ List.replicate n3 126 ++ C ++ List.replicate n4 126, by simp only [List.append_assoc], List.replicate n2 126, List.replicate n3 126 ++ C ++ List.replicate n4 126, by simp only [List.append_assoc], List.replicate n3 126, List.replicate n4 126, rfl, trivial⟩
end
section
open PySem PySem.W PyProof.Rows
variable [Lo]
theorem not_in_seg {T : List Nat} {v : Nat} (h : v ∉ T) (i j : Nat) : v ∉ seg T i j := fun hm => h (List.mem_of_mem_drop (List.mem_of_mem_take hm))
/-- a row, as natural numbers -/
theorem row_nat {F E P0 P1 P2 : List Nat} (lE : E.length ≤ 2) {row : List Int} (h : row ∈ rowsOf F.length P0.length P1.length P2.length (8 - E.length)) :
    ∃ p q r : Nat, row = [(p : Int), q, r] ∧ F.length ≤ p ∧ p + P0.length ≤ q ∧ q + P1.length ≤ r ∧ r + P2.length ≤ 8 - E.length := by
  obtain ⟨p, q, r, rfl, h1, h2, h3, h4, h5, h6⟩ := rowsOf_mem.mp h
  refine ⟨p.toNat, q.toNat, r.toNat, ?_, by exact z168 h1, by exact z36 h3 h1, by exact z23 h3 h5 h1, by exact z35 h2 h6 h1 lE⟩
  rw [show (p.toNat : Int) = p by exact z113 h1, show (q.toNat : Int) = q by exact z68 h3 h1, show (r.toNat : Int) = r by exact z41 h3 h5 h1]
theorem row_of {F E P0 P1 P2 : List Nat} (lE : E.length ≤ 2) (p q r : Nat) (h1 : F.length ≤ p) (h2 : p + P0.length ≤ q) (h3 : q + P1.length ≤ r) (h4 : r + P2.length ≤ 8 - E.length) :
    [(p : Int), q, r] ∈ rowsOf F.length P0.length P1.length P2.length (8 - E.length) :=
  rowsOf_mem.mpr ⟨p, q, r, rfl, by exact z467 h1, by exact z74 h4 h2 h3 lE, by exact z251 h2, by exact z100 h4 h3 lE, by exact z251 h3, by exact z180 h4 lE⟩
theorem told_row (T F E P0 P1 P2 : List Nat) (hT : T.length = 8) (lE : E.length ≤ 2) (p q r : Nat) :
    toldB T F E [P0, P1, P2] [(p : Int), q, r] = true ↔ (seg T 0 F.length = F ∧ seg T (8 - E.length) 8 = E) ∧ seg T p (p + P0.length) = P0 ∧ seg T q (q + P1.length) = P1 ∧ seg T r (r + P2.length) = P2 := by
  have c1 : ∀ x y : Nat, slc (some (x : Int)) (some ((x : Int) + (y : Int))) T = seg T x (x + y) := fun x y => by rw [← Int.natCast_add]; exact slc_seg T x (x + y)
  unfold toldB heldB cutsAt
  simp only [List.map_cons, List.map_nil, List.zip_cons_cons, List.zip_nil_left, c1]
  rw [slc_to, show (8 - (E.length : Int)) = ((8 - E.length : Nat) : Int) by exact z172 lE, slc_from, hT]
  simp only [Bool.and_eq_true, decide_eq_true_eq, List.cons.injEq, and_true]
theorem fact_told (T F E P0 P1 P2 : List Nat) (hT : T.length = 8) (lF : F.length ≤ 2) (lE : E.length ≤ 2) (wT : 126 ∉ T) (w0 : 126 ∉ P0) (w1 : 126 ∉ P1) (w2 : 126 ∉ P2) :
    ∀ row ∈ rowsOf F.length P0.length P1.length P2.length (8 - E.length), (toldB T F E [P0, P1, P2] row = true ↔ Fits F [P0, P1, P2] E (blotOf T row F.length [(P0.length : Int), P1.length, P2.length] (8 - E.length))) := by
  intro row hrow
  obtain ⟨p, q, r, rfl, h1, h2, h3, h4⟩ := row_nat lE hrow
  rw [told_row T F E P0 P1 P2 hT lE p q r, show (8 - (E.length : Int)) = ((8 - E.length : Nat) : Int) by exact z172 lE, blot_eq T hT F.length p P0.length q P1.length r P2.length (8 - E.length) h1 h2 h3 h4 (by exact z258 lE),
    fits_between rfl (by rw [seg_len T _ _ (by exact z421 hT lF)]; exact z156 lF) (by rw [seg_len T _ _ (by exact z494 hT)]; exact z56 lE),
    dec_blot _ _ _ _ _ _ _ _ _ _ (not_in_seg wT _ _) (not_in_seg wT _ _) (not_in_seg wT _ _) w0 w1 w2 (by rw [seg_len T _ _ (by exact z52 h4 h2 h3 hT lE)]; exact z94) (by rw [seg_len T _ _ (by exact z72 h4 h3 hT lE)]; exact z94) (by rw [seg_len T _ _ (by exact z115 h4 hT lE)]; exact z94)]
  constructor
  · rintro ⟨⟨a, b⟩, c⟩; exact ⟨a, b, c⟩
  · rintro ⟨a, b, c⟩; exact ⟨⟨a, b⟩, c⟩
theorem fact_ways (T F E P0 P1 P2 : List Nat) (hT : T.length = 8) (lF : F.length ≤ 2) (lE : E.length ≤ 2) :
    (rowsOf F.length P0.length P1.length P2.length (8 - E.length)).filter (toldB T F E [P0, P1, P2]) ≠ [] ↔ Fits F [P0, P1, P2] E T := by
  have hsplit : T = seg T 0 F.length ++ seg T F.length (8 - E.length) ++ seg T (8 - E.length) 8 := by
    rw [← seg_cat T (by exact z475 lF) (by exact z224 lF lE), ← seg_cat T (by exact z489) (by exact z258 lE), ← hT, seg_all]
  rw [fits_between hsplit (by rw [seg_len T _ _ (by exact z421 hT lF)]; exact z156 lF) (by rw [seg_len T _ _ (by exact z494 hT)]; exact z56 lE)]
  constructor
  · intro h
    obtain ⟨row, hr⟩ := List.exists_mem_of_ne_nil _ h
    obtain ⟨hr, ht⟩ := List.mem_filter.mp hr
    obtain ⟨p, q, r, rfl, h1, h2, h3, h4⟩ := row_nat lE hr
    obtain ⟨⟨a, b⟩, c0, c1, c2⟩ := (told_row T F E P0 P1 P2 hT lE p q r).mp ht
    refine ⟨a, b, seg T F.length p, seg T (p + P0.length) (8 - E.length), ?_, seg T (p + P0.length) q, seg T (q + P1.length) (8 - E.length), ?_, seg T (q + P1.length) r, seg T (r + P2.length) (8 - E.length), ?_, trivial⟩
    · rw [seg_cat T (i := F.length) (j := p) h1 (by exact z78 h4 h2 h3), seg_cat T (i := p) (j := p + P0.length) (by exact z354) (by exact z86 h4 h2 h3), c0, List.append_assoc]
    · rw [seg_cat T (i := p + P0.length) (j := q) h2 (by exact z118 h4 h3), seg_cat T (i := q) (j := q + P1.length) (by exact z354) (by exact z140 h4 h3), c1, List.append_assoc]
    · rw [seg_cat T (i := q + P1.length) (j := r) h3 (by exact z220 h4), seg_cat T (i := r) (j := r + P2.length) (by exact z354) (by omega), c2, List.append_assoc]
  · rintro ⟨a, b, x0, y0, e0, x1, y1, e1, x2, y2, e2, _⟩
    obtain ⟨g0, s0, t0⟩ := seg_cut T (by exact z253 hT lE) e0 (by exact z224 lF lE)
    rw [← t0] at e1
    obtain ⟨g1, s1, t1⟩ := seg_cut T (by exact z253 hT lE) e1 (by omega)
    rw [← t1] at e2
    obtain ⟨g2, s2, t2⟩ := seg_cut T (by exact z253 hT lE) e2 (by omega)
    have hm := row_of (F := F) (E := E) (P0 := P0) (P1 := P1) (P2 := P2) lE (F.length + x0.length) (F.length + x0.length + P0.length + x1.length) (F.length + x0.length + P0.length + x1.length + P1.length + x2.length) (by exact z354) (by exact z328) (by exact z238) (by omega)
    have ht := (told_row T F E P0 P1 P2 hT lE _ _ _).mpr ⟨⟨a, b⟩, s0, s1, s2⟩
    exact List.ne_nil_of_mem (List.mem_filter.mpr ⟨hm, ht⟩)
theorem fact_alone (T F E : List Nat) (hT : T.length = 8) (lF : F.length ≤ 2) (lE : E.length ≤ 2) (k : Int) (h0 : 0 ≤ k) (h8 : k ≤ 8) : aloneB T F E k = true ↔ Fits F [] E (slc none (some k) T) := by
  obtain ⟨n, rfl⟩ : ∃ n : Nat, k = n := ⟨k.toNat, by exact z145 h0 h8⟩
  unfold aloneB
  rw [slc_to, slc_to]
  simp only [Bool.and_eq_true, decide_eq_true_eq]
  by_cases h : F.length + E.length ≤ n
  · rw [show ((n : Int) - E.length) = ((n - E.length : Nat) : Int) by exact z148 h lF, slc_seg]
    have hsplit : seg T 0 n = seg T 0 F.length ++ seg T F.length (n - E.length) ++ seg T (n - E.length) n := by
      rw [← seg_cat T (by exact z475 lF) (by exact z203 h lF), ← seg_cat T (by exact z480) (by exact z171 h lF lE)]
    rw [fits_between hsplit (by rw [seg_len T _ _ (by exact z421 hT lF)]; exact z156 lF) (by rw [seg_len T _ _ (by exact z380 h0 h8 hT)]; exact z33 h lF lE)]
    constructor
    · rintro ⟨_, a, b⟩; exact ⟨a, b, trivial⟩
    · rintro ⟨a, b, _⟩; exact ⟨by exact z251 h, a, b⟩
  · constructor
    · rintro ⟨a, _⟩; omega
    · rintro ⟨m, e, _⟩
      have hl := congrArg List.length e
      rw [seg_len T 0 n (by exact z380 h0 h8 hT)] at hl
      simp only [List.length_append] at hl
      omega
theorem fact_plain (T F : List Nat) (hT : T.length = 8) (lF : F.length ≤ 2) (k : Int) (h0 : 0 ≤ k) (h8 : k ≤ 8) : decide (F = slc none (some k) T) = plainB T F k := by
  obtain ⟨n, rfl⟩ : ∃ n : Nat, k = n := ⟨k.toNat, by exact z145 h0 h8⟩
  unfold plainB
  rw [slc_to, slc_to]
  rw [Bool.eq_iff_iff]
  simp only [Bool.and_eq_true, decide_eq_true_eq]
  constructor
  · intro e
    have hl := congrArg List.length e
    rw [seg_len T 0 n (by exact z380 h0 h8 hT)] at hl
    have : n = F.length := by exact z188 h0 h8 hl
    subst this
    exact ⟨rfl, e.symm⟩
  · rintro ⟨a, b⟩
    have : n = F.length := by exact z386 a
    subst this
    exact b.symm
end
section
open PySem PySem.W PyProof.Rows
variable [Lo]
noncomputable def AB (l : List Nat) : Prop := ∀ x ∈ l, x = 97 ∨ x = 98
theorem AB.no {l : List Nat} (h : AB l) : 46 ∉ l ∧ 126 ∉ l := ⟨fun hm => by have := h _ hm; exact z543 this, fun hm => by have := h _ hm; exact z544 this⟩
theorem AB.take {l : List Nat} (h : AB l) (n : Nat) : AB (l.take n) := fun x hx => h x (List.mem_of_mem_take hx)
theorem AB.drop {l : List Nat} (h : AB l) (n : Nat) : AB (l.drop n) := fun x hx => h x (List.mem_of_mem_drop hx)
theorem AB.text (cut : List Int) : AB (textL cut) := fun x hx => by
  obtain ⟨p, _, rfl⟩ := List.mem_map.mp hx
  unfold letterOf
  split <;> simp
theorem AB.lit1 : AB [97] := fun x hx => by simp at hx; exact z397 hx
theorem AB.lit2 : AB [98] := fun x hx => by simp at hx; exact z461 hx
theorem AB.lit3 : AB [97, 98] := fun x hx => by simp at hx; omega
theorem AB.lit4 : AB [98, 98] := fun x hx => by simp at hx; exact z461 hx
theorem AB.nil : AB [] := fun x hx => by simp at hx
theorem AB.front {T : List Nat} (h : AB T) (dr : List Int) : AB (frontL T dr) := pick_any _ (h.take 1) AB.nil (h.take 2) AB.lit1
theorem AB.end' {T : List Nat} (h : AB T) (dr : List Int) : AB (endL T dr) := pick_any _ (h.drop 7) AB.nil (h.drop 6) AB.lit1
theorem AB.mid {T : List Nat} (h : AB T) (F E : List Nat) : AB (midL T F E) := (h.drop _).take _
theorem AB.p0 {m : List Nat} (h : AB m) (dr : List Int) : AB (p0L m dr) := pick_any _ (h.take 1) AB.lit2 (h.take 2) AB.lit3
theorem AB.p1 {m : List Nat} (h : AB m) (dr : List Int) : AB (p1L m dr) := pick_any _ AB.lit2 ((h.drop 2).take 1) AB.lit4 AB.nil
theorem AB.p2 {m : List Nat} (h : AB m) (dr : List Int) : AB (p2L m dr) := pick_any _ AB.lit1 ((h.drop 3).take 1) AB.lit3 (h.drop _)
theorem p2L_pos (m : List Nat) (dr : List Int) (h : 4 ≤ m.length) : 1 ≤ (p2L m dr).length :=
  pick_any (P := fun l => 1 ≤ l.length) _ (by simp) (by simp; exact z217 h) (by simp) (by simp; exact z178 h)
theorem midL_len (T F E : List Nat) (hT : T.length = 8) : (midL T F E).length = 8 - E.length - F.length := by
  unfold midL; rw [List.length_take, List.length_drop]; exact z16 hT
/-- the smallest but i are no larger than v: as many as that -/
theorem nth_le (v : Int) : ∀ (ys : List Int) (i : Nat), ys.Pairwise (· ≤ ·) → i < ys.length → (ys.getD i 0 ≤ v ↔ i < ys.countP fun y => decide (y ≤ v))
  | [], i, _, h => by simp at h
  | y :: r, i, hs, hi => by
    obtain ⟨hy, hr⟩ := List.pairwise_cons.mp hs
    rw [List.countP_cons]
    by_cases h : y ≤ v
    · cases i with
      | zero => simp [h]
      | succ i =>
        have ih := nth_le v r i hr (by simpa using hi)
        have : (y :: r).getD (i + 1) 0 = r.getD i 0 := rfl
        rw [this, ih]
        simp [h]
    · have h0 : r.countP (fun y => decide (y ≤ v)) = 0 := List.countP_eq_zero.mpr fun x hx => by
        have := hy x hx
        simp only [decide_eq_true_eq]; exact z372 this h
      rw [h0]
      have hv : ¬ (y :: r).getD i 0 ≤ v := by
        cases i with
        | zero => exact h
        | succ i =>
          have hi' : i < r.length := by simpa using hi
          have : (y :: r).getD (i + 1) 0 = r[i] := by simp [List.getD, List.getElem?_eq_getElem hi']
          rw [this]
          have := hy r[i] (List.getElem_mem _)
          exact z320 hi' this h
      rw [if_neg (by simpa using h)]
      exact ⟨fun e => absurd e hv, fun e => by exact z509 e⟩
/-- columns in order stay apart as their rows do -/
theorem srt_apart {α : Type} (l : List α) (f g : α → Int) (a : Int) (h : ∀ x ∈ l, f x + a ≤ g x) (i : Nat) (hi : i < l.length) : (srt (l.map f)).getD i 0 + a ≤ (srt (l.map g)).getD i 0 := by
  have hl : ∀ f : α → Int, (srt (l.map f)).length = l.length := fun f => by rw [srt_length, List.length_map]
  have h1 := (nth_le ((srt (l.map g)).getD i 0) (srt (l.map g)) i (srt_sorted _) (by rw [hl]; exact hi)).mp (Int.le_refl _)
  rw [(srt_perm _).countP_eq, List.countP_map] at h1
  have h2 : i < l.countP ((fun y => decide (y ≤ (srt (l.map g)).getD i 0 - a)) ∘ f) := by
    refine Nat.lt_of_lt_of_le h1 (List.countP_mono_left fun x hx hp => ?_)
    simp only [Function.comp, decide_eq_true_eq] at hp ⊢
    have := h x hx
    exact z241 this hp
  have h3 := (nth_le ((srt (l.map g)).getD i 0 - a) (srt (l.map f)) i (srt_sorted _) (by rw [hl]; exact hi)).mpr (by rw [(srt_perm _).countP_eq, List.countP_map]; exact h2)
  exact z302 h3
theorem srt_mem {xs : List Int} {i : Nat} (h : i < xs.length) : (srt xs).getD i 0 ∈ xs := by
  have h' : i < (srt xs).length := by rw [srt_length]; exact h
  rw [← (srt_perm xs).mem_iff]
  have : (srt xs).getD i 0 = (srt xs)[i] := by simp [List.getD, List.getElem?_eq_getElem h']
  rw [this]
  exact List.getElem_mem _
/-- the ways -/
theorem way_iff {T F E P0 P1 P2 : List Nat} (hT : T.length = 8) (lE : E.length ≤ 2) {row : List Int} : row ∈ (rowsOf F.length P0.length P1.length P2.length (8 - E.length)).filter (toldB T F E [P0, P1, P2]) ↔
    ∃ p q r : Nat, row = [(p : Int), q, r] ∧ F.length ≤ p ∧ p + P0.length ≤ q ∧ q + P1.length ≤ r ∧ r + P2.length ≤ 8 - E.length ∧ (seg T 0 F.length = F ∧ seg T (8 - E.length) 8 = E) ∧ seg T p (p + P0.length) = P0 ∧ seg T q (q + P1.length) = P1 ∧ seg T r (r + P2.length) = P2 := by
  rw [List.mem_filter]
  constructor
  · rintro ⟨h, ht⟩
    obtain ⟨p, q, r, rfl, h1, h2, h3, h4⟩ := row_nat lE h
    have := (told_row T F E P0 P1 P2 hT lE p q r).mp ht
    exact ⟨p, q, r, rfl, h1, h2, h3, h4, this⟩
  · rintro ⟨p, q, r, rfl, h1, h2, h3, h4, h⟩
    exact ⟨row_of lE p q r h1 h2 h3 h4, (told_row T F E P0 P1 P2 hT lE p q r).mpr h⟩
theorem rng3 : rng 0 3 = [0, 1, 2] := by decide
/-- a layer of ways is a way -/
theorem fact_layer {T F E P0 P1 P2 : List Nat} (hT : T.length = 8) (lE : E.length ≤ 2) (bag : List (List Int)) (hb : ∀ row ∈ bag, row ∈ (rowsOf F.length P0.length P1.length P2.length (8 - E.length)).filter (toldB T F E [P0, P1, P2])) (i : Int) (h0 : 0 ≤ i) (h1 : i < bag.length) :
    layerOf (col bag) i ∈ (rowsOf F.length P0.length P1.length P2.length (8 - E.length)).filter (toldB T F E [P0, P1, P2]) := by
  have hl : ∀ j, i.toNat < (col bag j).length := fun j => by rw [col_len]; exact z155 h0 h1
  have hm : ∀ j, ∃ row ∈ bag, at' (srt (col bag j)) i = at' row j := fun j => by
    obtain ⟨row, hr, e⟩ := List.mem_map.mp (srt_mem (hl j))
    exact ⟨row, hr, e.symm⟩
  have a01 : at' (srt (col bag 0)) i + P0.length ≤ at' (srt (col bag 1)) i := srt_apart bag (fun r => at' r 0) (fun r => at' r 1) P0.length (fun row hr => by
    obtain ⟨p, q, r, rfl, _, h, _⟩ := (way_iff hT lE).mp (hb row hr)
    show (p : Int) + P0.length ≤ q; exact z251 h) i.toNat (by exact z155 h0 h1)
  have a12 : at' (srt (col bag 1)) i + P1.length ≤ at' (srt (col bag 2)) i := srt_apart bag (fun r => at' r 1) (fun r => at' r 2) P1.length (fun row hr => by
    obtain ⟨p, q, r, rfl, _, _, h, _⟩ := (way_iff hT lE).mp (hb row hr)
    show (q : Int) + P1.length ≤ r; exact z251 h) i.toNat (by exact z155 h0 h1)
  have hlay : layerOf (col bag) i = [at' (srt (col bag 0)) i, at' (srt (col bag 1)) i, at' (srt (col bag 2)) i] := by unfold layerOf; rw [rng3]; rfl
  obtain ⟨r0, m0, e0⟩ := hm 0
  obtain ⟨r1, m1, e1⟩ := hm 1
  obtain ⟨r2, m2, e2⟩ := hm 2
  obtain ⟨p0, q0, s0, rfl, b1, _, _, _, hh, c1, _, _⟩ := (way_iff hT lE).mp (hb r0 m0)
  obtain ⟨p1, q1, s1, rfl, _, _, _, _, _, _, c2, _⟩ := (way_iff hT lE).mp (hb r1 m1)
  obtain ⟨p2, q2, s2, rfl, _, _, _, b2, _, _, _, c3⟩ := (way_iff hT lE).mp (hb r2 m2)
  have e0 : at' (srt (col bag 0)) i = p0 := e0
  have e1 : at' (srt (col bag 1)) i = q1 := e1
  have e2 : at' (srt (col bag 2)) i = s2 := e2
  rw [e0, e1] at a01
  rw [e1, e2] at a12
  rw [hlay, e0, e1, e2]
  exact (way_iff hT lE).mpr ⟨p0, q1, s2, rfl, b1, by exact z75 a01 e1 ‹_›, by exact z22 a12 e1 e2 ‹_› ‹_›, b2, hh, c1, c2, c3⟩
end
section
open PySem PySem.W PyProof.Rows
variable [Lo]
/-- how many pairs stand beyond s and t -/
noncomputable def cnt (z : List (Int × Int)) (s t : Int) : Nat := z.countP fun x => decide (s < x.1) && decide (t < x.2)
noncomputable def c1 (z : List (Int × Int)) (s : Int) : Nat := z.countP fun x => decide (s < x.1)
noncomputable def c2 (z : List (Int × Int)) (t : Int) : Nat := z.countP fun x => decide (t < x.2)
noncomputable def small (z : List (Int × Int)) : Prop := ∀ x ∈ z, x.1 ∈ rng 0 8 ∧ x.2 ∈ rng 0 8
noncomputable def tot (f : Int → Int → Int) : Int := ((rng 0 8).map fun s => ((rng 0 8).map fun t => f s t).sum).sum
theorem sum_add (L : List Int) (f g : Int → Int) : (L.map fun s => f s + g s).sum = (L.map f).sum + (L.map g).sum := by
  induction L with
  | nil => rfl
  | cons x r ih => simp only [List.map_cons, List.sum_cons, ih]; exact z311
theorem tot_add (f g : Int → Int → Int) : tot (fun s t => f s t + g s t) = tot f + tot g := by
  unfold tot
  rw [← sum_add]
  congr 1
  refine List.map_congr_left fun s _ => ?_
  exact sum_add _ _ _
theorem prod_tot : ∀ a ∈ rng 0 8, ∀ b ∈ rng 0 8, a * b = tot fun s t => if decide (s < a) && decide (t < b) then 1 else 0 := by decide +kernel
theorem dot_tot : ∀ z : List (Int × Int), small z → (z.map fun x => x.1 * x.2).sum = tot fun s t => cnt z s t
  | [], _ => by decide
  | x :: r, h => by
    have ih := dot_tot r fun y hy => h y (.tail _ hy)
    have hx := h x (.head _)
    rw [List.map_cons, List.sum_cons, ih, prod_tot x.1 hx.1 x.2 hx.2, ← tot_add]
    congr 1
    funext s t
    unfold cnt
    rw [List.countP_cons]
    split <;> simp <;> exact z426
theorem sum_le (L : List Int) (f g : Int → Int) (h : ∀ s ∈ L, f s ≤ g s) : (L.map f).sum ≤ (L.map g).sum ∧ ((L.map f).sum = (L.map g).sum → ∀ s ∈ L, f s = g s) := by
  induction L with
  | nil => exact ⟨Int.le_refl _, fun _ s hs => by cases hs⟩
  | cons x r ih =>
    obtain ⟨i1, i2⟩ := ih fun s hs => h s (.tail _ hs)
    have hx := h x (.head _)
    simp only [List.map_cons, List.sum_cons]
    refine ⟨by exact z338 i1 hx, fun e s hs => ?_⟩
    rcases List.mem_cons.mp hs with rfl | hs
    · exact z230 e i1 hx
    · exact i2 (by exact z216 e i1 hx) s hs
theorem tot_le (f g : Int → Int → Int) (h : ∀ s ∈ rng 0 8, ∀ t ∈ rng 0 8, f s t ≤ g s t) : tot f ≤ tot g ∧ (tot f = tot g → ∀ s ∈ rng 0 8, ∀ t ∈ rng 0 8, f s t = g s t) := by
  unfold tot
  have h1 := sum_le (rng 0 8) (fun s => ((rng 0 8).map fun t => f s t).sum) (fun s => ((rng 0 8).map fun t => g s t).sum) fun s hs => (sum_le _ _ _ (h s hs)).1
  exact ⟨h1.1, fun e s hs => (sum_le _ _ _ (h s hs)).2 (h1.2 e s hs)⟩
theorem cnt_le (z : List (Int × Int)) (s t : Int) : cnt z s t ≤ min (c1 z s) (c2 z t) := by
  refine Nat.le_min.mpr ⟨List.countP_mono_left fun x _ h => ?_, List.countP_mono_left fun x _ h => ?_⟩
  · exact (Bool.and_eq_true _ _ ▸ h : _ ∧ _).1
  · exact (Bool.and_eq_true _ _ ▸ h : _ ∧ _).2
theorem countP_split {α : Type} (p q : α → Bool) (h : ∀ x, p x = true → q x = true) (l : List α) : l.countP q = l.countP p + l.countP fun x => q x && !p x := by
  induction l with
  | nil => rfl
  | cons a l ih =>
    rw [List.countP_cons, List.countP_cons, List.countP_cons, ih]
    cases hp : p a with
    | true => rw [h a hp]; exact Nat.add_right_comm _ _ 1
    | false => rw [Bool.not_false, Bool.and_true]; exact Nat.add_assoc _ _ _
theorem countP_lt {α : Type} (p q : α → Bool) (h : ∀ x, p x = true → q x = true) (l : List α) : l.countP p < l.countP q ↔ ∃ x ∈ l, q x = true ∧ p x = false := by
  rw [countP_split p q h, Nat.lt_add_right_iff_pos, List.countP_pos_iff]
  constructor
  · rintro ⟨x, hx, e⟩
    rw [Bool.and_eq_true, Bool.not_eq_true'] at e
    exact ⟨x, hx, e⟩
  · rintro ⟨x, hx, e⟩
    exact ⟨x, hx, by rw [e.1, e.2]; rfl⟩
/-- where no two cross, each two counts are nested -/
theorem cross_iff (z : List (Int × Int)) (h : small z) : (∃ u ∈ z, ∃ v ∈ z, u.1 < v.1 ∧ v.2 < u.2) ↔ ∃ s ∈ rng 0 8, ∃ t ∈ rng 0 8, cnt z s t ≠ min (c1 z s) (c2 z t) := by
  have k1 : ∀ s t, cnt z s t < c1 z s ↔ ∃ x ∈ z, s < x.1 ∧ ¬ t < x.2 := fun s t => by
    unfold cnt c1
    rw [countP_lt _ _ (fun x hx => (Bool.and_eq_true _ _ ▸ hx : _ ∧ _).1)]
    refine exists_congr fun x => and_congr_right fun _ => ?_
    simp only [decide_eq_true_eq, Bool.and_eq_false_iff, decide_eq_false_iff_not]
    constructor
    · rintro ⟨a, b | b⟩
      · exact absurd a b
      · exact ⟨a, b⟩
    · rintro ⟨a, b⟩; exact ⟨a, .inr b⟩
  have k2 : ∀ s t, cnt z s t < c2 z t ↔ ∃ x ∈ z, t < x.2 ∧ ¬ s < x.1 := fun s t => by
    unfold cnt c2
    rw [countP_lt _ _ (fun x hx => (Bool.and_eq_true _ _ ▸ hx : _ ∧ _).2)]
    refine exists_congr fun x => and_congr_right fun _ => ?_
    simp only [decide_eq_true_eq, Bool.and_eq_false_iff, decide_eq_false_iff_not]
    constructor
    · rintro ⟨a, b | b⟩
      · exact ⟨a, b⟩
      · exact absurd a b
    · rintro ⟨a, b⟩; exact ⟨a, .inl b⟩
  constructor
  · rintro ⟨u, hu, v, hv, h1, h2⟩
    refine ⟨u.1, (h u hu).1, v.2, (h v hv).2, ?_⟩
    have a := (k1 u.1 v.2).mpr ⟨v, hv, h1, by exact z531⟩
    have b := (k2 u.1 v.2).mpr ⟨u, hu, h2, by exact z531⟩
    exact z147 a b
  · rintro ⟨s, _, t, _, hne⟩
    have hle := cnt_le z s t
    have a : cnt z s t < c1 z s := by exact z144 hne hle
    have b : cnt z s t < c2 z t := by exact z151 a hne hle
    obtain ⟨v, hv, v1, v2⟩ := (k1 s t).mp a
    obtain ⟨u, hu, u1, u2⟩ := (k2 s t).mp b
    exact ⟨u, hu, v, hv, by exact z288 v1 u2, by exact z288 u1 v2⟩
/-- in order, each two counts are nested -/
theorem cnt_srt : ∀ (xs ys : List Int), xs.length = ys.length → xs.Pairwise (· ≤ ·) → ys.Pairwise (· ≤ ·) → ∀ s t, cnt (xs.zip ys) s t = min (xs.countP fun x => decide (s < x)) (ys.countP fun y => decide (t < y))
  | [], [], _, _, _, s, t => by simp [cnt]
  | x :: xs, y :: ys, hl, hx, hy, s, t => by
    obtain ⟨hx1, hx2⟩ := List.pairwise_cons.mp hx
    obtain ⟨hy1, hy2⟩ := List.pairwise_cons.mp hy
    have hl' : xs.length = ys.length := by simpa using hl
    have ih := cnt_srt xs ys hl' hx2 hy2 s t
    have full : ∀ (v w : Int) (l : List Int), (∀ a ∈ l, v ≤ a) → w < v → l.countP (fun a => decide (w < a)) = l.length := fun v w l h hw => List.countP_eq_length.mpr fun a ha => by
      have := h a ha
      simp only [decide_eq_true_eq]; exact z280 hw this
    have le1 : xs.countP (fun a => decide (s < a)) ≤ xs.length := List.countP_le_length
    have le2 : ys.countP (fun a => decide (t < a)) ≤ ys.length := List.countP_le_length
    unfold cnt at ih ⊢
    rw [List.zip_cons_cons, List.countP_cons, List.countP_cons, List.countP_cons, ih]
    by_cases h1 : s < x
    · have f1 := full x s xs hx1 h1
      by_cases h2 : t < y
      · have f2 := full y t ys hy1 h2
        rw [f1, f2]
        simp [h1, h2] <;> omega
      · rw [f1]
        simp [h1, h2] <;> exact z3 hl' f1 le2
    · by_cases h2 : t < y
      · have f2 := full y t ys hy1 h2
        rw [f2]
        simp [h1, h2] <;> exact z8 hl' f2 le1
      · simp [h1, h2]
theorem zip_c1 : ∀ (xs ys : List Int), xs.length = ys.length → ∀ s, c1 (xs.zip ys) s = xs.countP fun x => decide (s < x)
  | [], [], _, s => rfl
  | x :: xs, y :: ys, h, s => by
    have ih := zip_c1 xs ys (by simpa using h) s
    unfold c1 at ih ⊢
    rw [List.zip_cons_cons, List.countP_cons, List.countP_cons, ih]
theorem zip_c2 : ∀ (xs ys : List Int), xs.length = ys.length → ∀ s, c2 (xs.zip ys) s = ys.countP fun x => decide (s < x)
  | [], [], _, s => rfl
  | x :: xs, y :: ys, h, s => by
    have ih := zip_c2 xs ys (by simpa using h) s
    unfold c2 at ih ⊢
    rw [List.zip_cons_cons, List.countP_cons, List.countP_cons, ih]
/-- rearrangement -/
theorem dot_srt (xs ys : List Int) (hl : xs.length = ys.length) (hx : ∀ x ∈ xs, x ∈ rng 0 8) (hy : ∀ y ∈ ys, y ∈ rng 0 8) :
    dot xs ys ≤ dot (srt xs) (srt ys) ∧ ((∃ u ∈ xs.zip ys, ∃ v ∈ xs.zip ys, u.1 < v.1 ∧ v.2 < u.2) ↔ dot (srt xs) (srt ys) ≠ dot xs ys) := by
  have hz : small (xs.zip ys) := fun x h => by
    obtain ⟨a, b⟩ := x
    have := List.of_mem_zip h
    exact ⟨hx _ this.1, hy _ this.2⟩
  have hz' : small ((srt xs).zip (srt ys)) := fun x h => by
    obtain ⟨a, b⟩ := x
    have := List.of_mem_zip h
    exact ⟨hx _ ((srt_perm xs).mem_iff.mp this.1), hy _ ((srt_perm ys).mem_iff.mp this.2)⟩
  have e1 : dot xs ys = tot fun s t => cnt (xs.zip ys) s t := dot_tot _ hz
  have e2 : dot (srt xs) (srt ys) = tot fun s t => ((min (c1 (xs.zip ys) s) (c2 (xs.zip ys) t) : Nat) : Int) := by
    have : dot (srt xs) (srt ys) = tot fun s t => cnt ((srt xs).zip (srt ys)) s t := dot_tot _ hz'
    rw [this]
    congr 1
    funext s t
    rw [cnt_srt _ _ (by rw [srt_length, srt_length]; exact hl) (srt_sorted _) (srt_sorted _), zip_c1 xs ys hl, zip_c2 xs ys hl, (srt_perm xs).countP_eq, (srt_perm ys).countP_eq]
  have hle := tot_le (fun s t => (cnt (xs.zip ys) s t : Int)) (fun s t => ((min (c1 (xs.zip ys) s) (c2 (xs.zip ys) t) : Nat) : Int)) fun s _ t _ => Int.ofNat_le.mpr (cnt_le (xs.zip ys) s t)
  rw [← e1, ← e2] at hle
  refine ⟨hle.1, ?_⟩
  rw [cross_iff _ hz]
  constructor
  · rintro ⟨s, hs, t, ht, hne⟩ e
    have he : (cnt (xs.zip ys) s t : Int) = ((min (c1 (xs.zip ys) s) (c2 (xs.zip ys) t) : Nat) : Int) := hle.2 e.symm s hs t ht
    exact hne (by exact z249 he)
  · intro hne
    refine Classical.byContradiction fun hno => hne ?_
    rw [e1, e2]
    unfold tot
    refine congrArg List.sum (List.map_congr_left fun s hs => congrArg List.sum (List.map_congr_left fun t ht => ?_))
    have : cnt (xs.zip ys) s t = min (c1 (xs.zip ys) s) (c2 (xs.zip ys) t) := Classical.byContradiction fun h => hno ⟨s, hs, t, ht, h⟩
    exact (congrArg (fun n : Nat => (n : Int)) this).symm
end
section
open PySem PySem.W PyProof.Rows
variable [Lo]
theorem perm_sum {xs ys : List Int} (h : xs.Perm ys) : xs.sum = ys.sum := by
  induction h with
  | nil => rfl
  | cons x _ ih => simp only [List.sum_cons, ih]
  | swap x y l => simp only [List.sum_cons]; exact z300
  | trans _ _ a b => exact a.trans b
theorem crossB_iff (bag : List (List Int)) (a b : Int) : crossB bag a b = true ↔ ∃ u ∈ bag, ∃ v ∈ bag, at' u a < at' v a ∧ at' v b < at' u b := by
  unfold crossB
  rw [deq_nil]
  simp only [Bool.not_eq_true', decide_eq_false_iff_not]
  have hi : ∀ u : D, gather (fun v => decide (at' (unI u) a < at' (unI v) a) && decide (at' (unI v) b < at' (unI u) b)) (fun _ => [u]) (bag.map LI) ≠ [] ↔ ∃ v ∈ bag, at' (unI u) a < at' v a ∧ at' v b < at' (unI u) b := fun u => by
    unfold gather
    rw [ne_eq, List.flatMap_eq_nil_iff]
    constructor
    · intro h
      refine Classical.byContradiction fun hno => h fun d hd => ?_
      obtain ⟨v, hv, rfl⟩ := List.mem_map.mp hd
      rw [if_neg]
      intro hc
      dsimp only at hc
      rw [unI_LI] at hc
      simp only [Bool.and_eq_true, decide_eq_true_eq] at hc
      exact hno ⟨v, hv, hc⟩
    · rintro ⟨v, hv, hc⟩ h
      have := h (LI v) (List.mem_map_of_mem hv)
      rw [if_pos (by dsimp only; rw [unI_LI]; simp only [Bool.and_eq_true, decide_eq_true_eq]; exact hc)] at this
      cases this
  unfold crossD
  rw [gather, List.flatMap_eq_nil_iff]
  constructor
  · intro h
    refine Classical.byContradiction fun hno => h fun d hd => ?_
    obtain ⟨u, hu, rfl⟩ := List.mem_map.mp hd
    rw [if_pos rfl]
    refine Classical.byContradiction fun hne => hno ?_
    obtain ⟨v, hv, hc⟩ := (hi (LI u)).mp hne
    rw [unI_LI] at hc
    exact ⟨u, hu, v, hv, hc⟩
  · rintro ⟨u, hu, v, hv, hc⟩ h
    have := h (LI u) (List.mem_map_of_mem hu)
    rw [if_pos rfl] at this
    exact (hi (LI u)).mpr ⟨v, hv, by rw [unI_LI]; exact hc⟩ this
theorem fact_cross (bag : List (List Int)) (hb : ∀ r ∈ bag, ∀ x ∈ r, 0 ≤ x ∧ x ≤ 7) (hl : 0 < bag.length) (a b : Int) :
    bound (col bag a) (col bag b) ≤ bound (srt (col bag a)) (srt (col bag b)) ∧ (crossB bag a b = true ↔ bound (srt (col bag a)) (srt (col bag b)) ≠ bound (col bag a) (col bag b)) := by
  have hin : ∀ j, ∀ x ∈ col bag j, x ∈ rng 0 8 := fun j x hx => by
    obtain ⟨r, hr, rfl⟩ := List.mem_map.mp hx
    rw [rng_mem']
    show 0 ≤ at' r j ∧ at' r j < 8
    unfold at'
    rw [List.getD]
    cases hq : r[j.toNat]? with
    | none => decide
    | some v =>
      have := hb r hr v (List.mem_of_getElem? hq)
      simp only [Option.getD_some]; exact z400 this
  have hz : (col bag a).zip (col bag b) = bag.map fun r => (at' r a, at' r b) := by unfold col; rw [List.zip_map']
  obtain ⟨h1, h2⟩ := dot_srt (col bag a) (col bag b) (by rw [col_len, col_len]) (hin a) (hin b)
  have hx : (∃ u ∈ (col bag a).zip (col bag b), ∃ v ∈ (col bag a).zip (col bag b), u.1 < v.1 ∧ v.2 < u.2) ↔ ∃ u ∈ bag, ∃ v ∈ bag, at' u a < at' v a ∧ at' v b < at' u b := by
    rw [hz]
    constructor
    · rintro ⟨u, hu, v, hv, hc⟩
      obtain ⟨u, hu', rfl⟩ := List.mem_map.mp hu
      obtain ⟨v, hv', rfl⟩ := List.mem_map.mp hv
      exact ⟨u, hu', v, hv', hc⟩
    · rintro ⟨u, hu, v, hv, hc⟩
      exact ⟨_, List.mem_map_of_mem hu, _, List.mem_map_of_mem hv, hc⟩
  rw [hx, ← crossB_iff] at h2
  have e1 : bound (srt (col bag a)) (srt (col bag b)) = (bag.length : Int) * (bag.length * dot (srt (col bag a)) (srt (col bag b)) - (col bag a).sum * (col bag b).sum) := by
    unfold bound
    rw [srt_length, col_len, perm_sum (srt_perm (col bag a)), perm_sum (srt_perm (col bag b))]
  have e2 : bound (col bag a) (col bag b) = (bag.length : Int) * (bag.length * dot (col bag a) (col bag b) - (col bag a).sum * (col bag b).sum) := by
    unfold bound
    rw [col_len]
  rw [e1, e2, h2]
  generalize dot (srt (col bag a)) (srt (col bag b)) = y at *
  generalize dot (col bag a) (col bag b) = x at *
  generalize (col bag a).sum * (col bag b).sum = c at *
  have hn : (0 : Int) < bag.length := by exact z511 hl
  generalize (bag.length : Int) = n at *
  have m1 : n * x ≤ n * y := Int.mul_le_mul_of_nonneg_left h1 (by exact z415 hn)
  refine ⟨Int.mul_le_mul_of_nonneg_left (by exact z228 m1) (by exact z415 hn), ?_⟩
  constructor
  · intro hne e
    have e3 := Int.eq_of_mul_eq_mul_left (by exact z477 hn) e
    have e4 : n * y = n * x := by exact z166 e3
    exact hne (Int.eq_of_mul_eq_mul_left (by exact z477 hn) e4)
  · intro hne e
    exact hne (by rw [e])
end
section
open PySem PySem.W PyProof.Rows
variable [Lo]
noncomputable def dT (script : List Int) : List Nat := textL (cutOf script)
noncomputable def dD (script : List Int) : List Int := drawsTo (cutOf script) (cutOf script).length
noncomputable def dF (script : List Int) : List Nat := frontL (dT script) (dD script)
noncomputable def dE (script : List Int) : List Nat := endL (dT script) (dD script)
noncomputable def dM (script : List Int) : List Nat := midL (dT script) (dF script) (dE script)
noncomputable def dP0 (script : List Int) : List Nat := p0L (dM script) (dD script)
noncomputable def dP1 (script : List Int) : List Nat := p1L (dM script) (dD script)
noncomputable def dP2 (script : List Int) : List Nat := p2L (dM script) (dD script)
noncomputable def dRows (script : List Int) : List (List Int) := rowsOf (dF script).length (dP0 script).length (dP1 script).length (dP2 script).length (8 - (dE script).length)
noncomputable def dWays (script : List Int) : List (List Int) := (dRows script).filter (toldB (dT script) (dF script) (dE script) [dP0 script, dP1 script, dP2 script])
noncomputable def dK (script : List Int) : Int := 4 + ((cutOf script).length : Int) % 2
section
variable {c : Cfg} {C : Addr} {n : Nat} {N : Own → Vars → Prop} {R : D → Prop}
theorem cut60 (script : List Int) : (cutOf script).length ≤ 60 := by simp [cutOf]; exact z391
theorem dT_len (script : List Int) : (dT script).length = 8 := textL_len _
theorem dT_AB (script : List Int) : AB (dT script) := AB.text _
theorem dF_len (script : List Int) : (dF script).length ≤ 2 := frontL_len _ _
theorem dE_len (script : List Int) : (dE script).length ≤ 2 := endL_len _ _ (dT_len script)
theorem dM_AB (script : List Int) : AB (dM script) := (dT_AB script).mid _ _
noncomputable def vN (script : List Int) : Vars := [("count", .int (dK script)), ("ways", .list ((dWays script).map LI)), ("draws", LI (dD script)), ("first", .int (dF script).length), ("stop", .int (8 - (dE script).length))]
theorem lawA (G : Globs c C) (Fs : Fns c n) (script : List Int) (hN : ∀ ρ, Sub (vN script) ρ → N none ρ) : Ex c n (namesOf 17) [] none [("script", LI script)] bodyA N R := by
  have hT := dT_len script
  have aT := dT_AB script
  have lF := dF_len script
  have lE := dE_len script
  have aF : AB (dF script) := aT.front _
  have aE : AB (dE script) := aT.end' _
  have aM := dM_AB script
  have a0 : AB (dP0 script) := aM.p0 _
  have a1 : AB (dP1 script) := aM.p1 _
  have a2 : AB (dP2 script) := aM.p2 _
  have l0 : (dP0 script).length ≤ 2 := p0L_len _ _
  have l1 : (dP1 script).length ≤ 2 := p1L_len _ _
  have l2 : (dP2 script).length ≤ 2 := p2L_len _ _
  refine lawA_in G Fs script (dT script) (dD script) (dF script) (dE script) (dP0 script) (dP1 script) (dP2 script) rfl rfl rfl rfl rfl rfl rfl fun ρ hρ => ?_
  refine lawA5 G Fs _ (dT script) (dD script) (dF script) (dE script) (dP0 script) (dP1 script) (dP2 script) hT lF lE l0 l1 l2 aF.no.1 aE.no.1 a0.no.1 a1.no.1 a2.no.1 (dRows script) rfl
    (fact_told _ _ _ _ _ _ hT lF lE aT.no.2 a0.no.2 a1.no.2 a2.no.2) (dWays script) rfl (fact_ways _ _ _ _ _ _ hT lF lE) ρ hρ fun ρ hρ => ?_
  refine lawA6 G Fs _ (dT script) (dD script) (dF script) (dE script) (dP0 script) (dP1 script) (dP2 script) lF lE l0 l1 l2 (dRows script) rfl (dWays script) ρ hρ fun ρ hρ => ?_
  refine lawA7 G Fs (cutOf script) (by have := cut60 script; exact z425 this) (dT script) (dD script) (dF script) (dE script) (dP0 script) (dP1 script) (dP2 script) lF lE aF.no.1 aE.no.1 (fact_alone _ _ _ hT lF lE) (fact_plain _ _ hT lF)
    (dRows script) (rowsOf_len (by exact z384 lF) (by exact z437 lE) (by exact z384 l0) (by exact z384 l1) (by exact z384 l2)) _ _ _ ρ hρ fun ρ hρ => hN ρ hρ
theorem lawB' (G : Globs c C) (Fs : Fns c n) (script : List Int) (ρ : Vars) (hρ : Sub [("count", .int (dK script)), ("ways", .list ((dWays script).map LI)), ("draws", LI (dD script))] ρ) (hR : R (.bool true)) : Ex c n (namesOf 17) clB none ρ (bodyB.drop 2) N R := by
  have hT := dT_len script
  have lF := dF_len script
  have lE := dE_len script
  have l2 : 1 ≤ (dP2 script).length := p2L_pos _ _ (by rw [dM, midL_len _ _ _ hT]; exact z175 lF lE)
  have hk : 4 ≤ dK script ∧ dK script ≤ 5 := by unfold dK; exact z195
  have hw : ∀ w ∈ dWays script, w.length = 3 ∧ ∀ x ∈ w, 0 ≤ x ∧ x ≤ 7 := fun w hw => by
    obtain ⟨p, q, r, rfl, _, _, _, _, _⟩ := (way_iff hT lE).mp hw
    refine ⟨rfl, fun x hx => ?_⟩
    simp at hx
    rcases hx with rfl | rfl | rfl <;> (first | exact z32 l2 ‹_› ‹_› ‹_› lE | exact z50 l2 ‹_› ‹_› lE | exact z73 l2 ‹_› lE)
  have hl : (dWays script).length ≤ 729 := Nat.le_trans (List.length_filter_le _ _) (rowsOf_len (by exact z384 lF) (by exact z437 lE) (by exact z474) (by exact z474) (by exact z464 l2))
  refine lawB G Fs (dWays script) (dD script) (dK script) hk (drawsTo_len _ _) hw hl (fun hne i h0 h1 => ?_) (fun hne a b _ => ?_) ρ hρ hR
  · exact fact_layer hT lE _ (fun row hr => bag_in hne hr) i h0 (by rw [bag_len]; exact z169 hk h1)
  · exact fact_cross _ (fun r hr => (hw r (bag_in hne hr)).2) (by rw [bag_len]; exact z232 hk) a b
end
end
section
open PySem PySem.W PyProof.Rows
variable [Lo]
set_option maxRecDepth 100000
/-- a lambda that is to be made -/
structure Lm where
  body : Expr
  scope : Scope
  pos : Pos
  clos : List (Str × Addr)
noncomputable def Lm.e (l : Lm) : Expr := .Lambda ⟨[], [], none, [], [], none, []⟩ l.body l.scope l.pos
/-- a lambda that was made -/
structure Lm.Is (l : Lm) (q : Str) (h : Heap) (a : Addr) (fd : FuncData) : Prop where
  at' : h.get? a = some { cls := .type "function", data := .func fd }
  code : h.CodeRec fd.code fd.qualname
  fd : ∃ pm c' ctv, fd = kla_fn "<lambda>" q ⟨[], [], none, [], [], none, []⟩ l.body l.scope l.clos pm (.ref c') ctv
theorem Keep.codeRec {h h' : Heap} (k : Keep h h') {cd : Value} {q : Str} (x : h.CodeRec cd q) : h'.CodeRec cd q := by
  obtain ⟨c, o, vs, t, rfl, e, hd, hv⟩ := x
  obtain ⟨o', e', T⟩ := k.all c o e
  cases T with
  | same => exact ⟨c, o, vs, t, rfl, e', hd, hv⟩
  | @table ps more hb ht =>
    have : ps = vs := by cases hd; rfl
    subst this
    refine ⟨c, _, _, t, rfl, e', rfl, ?_⟩
    obtain ⟨hi, hx⟩ := Array.getElem?_eq_some_iff.mp hv
    rw [Array.getElem?_append_left hi, hv]
  | frame sl hf => unfold frm at hf; rw [hd] at hf; exact ft_ hf
theorem Lm.Is.keep {l : Lm} {q : Str} {h h' : Heap} {a : Addr} {fd : FuncData} (k : Keep h h') (x : l.Is q h a fd) : l.Is q h' a fd :=
  ⟨k.at' _ _ x.at' (soft_func rfl), k.codeRec x.code, x.fd⟩
theorem hd_elim {h : Heap} {c P : Addr} {β : Prop} (x : CodeHd h c P) (k : ∀ o vs file tf flags tg inF text tt, h.get? c = some o → o.cls = .type "code" → o.data = .fields vs → (vs[11]? = some (.ref P) ∧ vs.getD 11 .none = .ref P ∧ vs.getD 18 .none = .str file tf ∧
    vs.getD 7 .none = .int flags tg ∧ vs.getD 9 .none = .bool inF ∧ vs.getD 10 .none = .int text tt ∧ c ≠ P) → β) : β := by
  obtain ⟨o, vs, file, tf, flags, tg, inF, text, tt, e, hc, hd, r⟩ := x
  exact k _ _ _ _ _ _ _ _ _ e hc hd r
theorem Keep.codeHd {h h' : Heap} (k : Keep h h') {c P : Addr} (x : CodeHd h c P) : CodeHd h' c P := by
  refine hd_elim x fun o vs file tf flags tg inF text tt e hc hd r => ?_
  exact ⟨o, vs, file, tf, flags, tg, inF, text, tt, k.at' _ _ e (soft_fields hc hd), hc, hd, r⟩
theorem triples_snoc {a b : Int} {x : Value} : ∀ l : List Value, TriplesOk l → TriplesOk (l ++ [rawInt a, rawInt b, x])
  | [], _ => trivial
  | .int _ _ :: .int _ _ :: _ :: rest, h => triples_snoc rest h
theorem among_other {pos : Pos} {a b : Int} {x : Value} (hne : ¬ (a = pos.line ∧ b = pos.col)) : ∀ l : List Value, TriplesOk l → codeAmong pos l = none → codeAmong pos (l ++ [rawInt a, rawInt b, x]) = none
  | [], _, _ => by
    show (if (a == (pos.line : Int) && b == (pos.col : Int)) = true then some x else codeAmong pos []) = none
    rw [if_neg (by simp only [Bool.and_eq_true, beq_iff_eq]; exact hne)]
    rfl
  | .int u _ :: .int v _ :: y :: rest, h, hn => by
    have hn' : (if (u == (pos.line : Int) && v == (pos.col : Int)) = true then some y else codeAmong pos rest) = none := hn
    show (if (u == (pos.line : Int) && v == (pos.col : Int)) = true then some y else codeAmong pos (rest ++ [rawInt a, rawInt b, x])) = none
    split at hn'
    · exact sn_ hn'
    · rename_i hc
      rw [if_neg hc]
      exact among_other hne rest h hn'
section
variable {c : Cfg} {A : Around} {E : Value → Shared → Prop} {s : Shared} {env : Env}
/-- one lambda -/
theorem lam_step (h131 : 131 ∈ Lo.tabs) (hg : env.globals = mainGlobals) (hcode : env.code = .ref 133) (hb : BMain s.heap) (C : CodeHd s.heap 133 131) {ps : List Value} (hP : s.heap.get? 131 = some (tabObj ps.toArray)) (ht : TriplesOk ps) (l : Lm) (hnf : codeAmong l.pos ps = none) (hcl : closureFor l.scope env = pure l.clos) :
    wpAny (model c.prog c.w) A (eval l.e env) (fun v s' => ∃ a fd x, v = .ref a ∧ Kp s s' ∧ s'.heap.get? 131 = some (tabObj (ps ++ [rawInt l.pos.line, rawInt l.pos.col, x]).toArray) ∧ l.Is (env.qual ++ "<lambda>") s'.heap a fd) E s := by
  refine lam_make (c := c) hg hcode hb C hP ht hnf hcl fun pm c' ctv h' tk hx hsz hcd hP' => ?_
  have hp : (h'.push (kla_obj "<lambda>" (env.qual ++ "<lambda>") ⟨[], [], none, [], [], none, []⟩ l.body l.scope l.clos pm c' ctv)).get? 131 = some (tabObj (ps.toArray ++ #[rawInt l.pos.line, rawInt l.pos.col, .ref c'])) := Heap.get?_push_of_some _ hP'
  have K0 : Keep h' (h'.push (kla_obj "<lambda>" (env.qual ++ "<lambda>") ⟨[], [], none, [], [], none, []⟩ l.body l.scope l.clos pm c' ctv)) := .of fun _ _ e => Heap.get?_push_of_some _ e
  refine ⟨_, _, .ref c', rfl, ⟨⟨fun b o e => ?_⟩, rfl, fun x => x⟩, by rw [hp]; simp, ⟨Heap.get?_push_size _ rfl, K0.codeRec hcd, pm, c', ctv, rfl⟩⟩
  by_cases h : b = 131
  · subst h
    rw [hP] at e
    obtain rfl := Option.some.inj e
    exact ⟨_, hp, .table h131 fun _ => by simpa using triples_snoc ps ht⟩
  · exact ⟨o, Heap.get?_push_of_some _ (hx b o h e), .same o⟩
end
end
section
open PySem PySem.W PyProof.Rows
variable [Lo]
set_option maxRecDepth 100000
/-- lambdas and what they were made to -/
inductive Made (q : Str) (h : Heap) : List Lm → List (Addr × FuncData) → Prop
  | nil : Made q h [] []
  | cons {l : Lm} {ls : List Lm} {a : Addr} {fd : FuncData} {ms : List (Addr × FuncData)} : l.Is q h a fd → Made q h ls ms → Made q h (l :: ls) ((a, fd) :: ms)
theorem Made.uncons {q : Str} {h : Heap} {l : Lm} {ls : List Lm} {a : Addr} {fd : FuncData} {ms : List (Addr × FuncData)} (x : Made q h (l :: ls) ((a, fd) :: ms)) : l.Is q h a fd ∧ Made q h ls ms := by
  cases x with | cons a b => exact ⟨a, b⟩
theorem Made.map {q : Str} {h h' : Heap} (k : ∀ (l : Lm) (a : Addr) (fd : FuncData), l.Is q h a fd → l.Is q h' a fd) {ls : List Lm} {ms : List (Addr × FuncData)} (x : Made q h ls ms) : Made q h' ls ms := by
  induction x with
  | nil => exact .nil
  | cons x _ ih => exact .cons (k _ _ _ x) ih
theorem Made.keep {q : Str} {h h' : Heap} (k : Keep h h') {ls : List Lm} {ms : List (Addr × FuncData)} (x : Made q h ls ms) : Made q h' ls ms := x.map fun _ _ _ => Lm.Is.keep k
theorem Made.length {q : Str} {h : Heap} {ls : List Lm} {ms : List (Addr × FuncData)} (x : Made q h ls ms) : ms.length = ls.length := by
  induction x with
  | nil => rfl
  | cons _ _ ih => exact congrArg (· + 1) ih
theorem Made.mem {q : Str} {h : Heap} {ls : List Lm} {ms : List (Addr × FuncData)} (x : Made q h ls ms) : ∀ a ∈ ms.map (·.1), ∃ l ∈ ls, ∃ fd, l.Is q h a fd := by
  induction x with
  | nil => exact fun _ h => absurd h List.not_mem_nil
  | cons x _ ih =>
    intro a ha
    rcases List.mem_cons.mp ha with rfl | ha
    · exact ⟨_, .head _, _, x⟩
    · obtain ⟨l, hl, r⟩ := ih a ha; exact ⟨l, .tail _ hl, r⟩
theorem Lm.Is.same {l : Lm} {q : Str} {h h' : Heap} {a b : Addr} {fd : FuncData} (hs : Heap.SameBut b h h') (hb : ∀ o, h.get? b = some o → (∃ es n, o.data = .dict es n) ∨ ∃ v, o.data = .cell v) (x : l.Is q h a fd) : l.Is q h' a fd := by
  refine ⟨?_, ?_, x.fd⟩
  · rw [hs.2 a]
    · exact x.at'
    · rintro rfl
      rcases hb _ x.at' with ⟨es, n, e⟩ | ⟨v, e⟩ <;> cases e
  · obtain ⟨c, o, vs, t, e1, e2, e3, e4⟩ := x.code
    refine ⟨c, o, vs, t, e1, ?_, e3, e4⟩
    rw [hs.2 c]
    · exact e2
    · rintro rfl
      rcases hb _ e2 with ⟨es, n, e⟩ | ⟨v, e⟩ <;> rw [e3] at e <;> cases e
theorem Made.same {q : Str} {h h' : Heap} {b : Addr} (hs : Heap.SameBut b h h') (hb : ∀ o, h.get? b = some o → (∃ es n, o.data = .dict es n) ∨ ∃ v, o.data = .cell v) {ls : List Lm} {ms : List (Addr × FuncData)} (x : Made q h ls ms) : Made q h' ls ms := x.map fun _ _ _ x => x.same hs hb
section
variable {c : Cfg} {A : Around} {E : Value → Shared → Prop} {s : Shared} {env : Env}
theorem lams_run (h131 : 131 ∈ Lo.tabs) (hg : env.globals = mainGlobals) (hcode : env.code = .ref 133) {pos : Pos} : ∀ (ls : List Lm) (ps : List Value) (s : Shared), BMain s.heap → CodeHd s.heap 133 131 → s.heap.get? 131 = some (tabObj ps.toArray) → TriplesOk ps →
    ls.Pairwise (fun a b => ¬ ((a.pos.line : Int) = b.pos.line ∧ (a.pos.col : Int) = b.pos.col)) → (∀ l ∈ ls, codeAmong l.pos ps = none ∧ closureFor l.scope env = pure l.clos) →
    wpAny (model c.prog c.w) A (spliced (backTo pos (starEach (ls.map Lm.e) env))) (fun vs s' => ∃ ms : List (Addr × FuncData), vs = ms.map (fun m => .ref m.1) ∧ Kp s s' ∧ Made (env.qual ++ "<lambda>") s'.heap ls ms) E s
  | [], ps, s, _, _, _, _, _, _ => wpAny_items_nil ⟨[], rfl, .refl s, .nil⟩
  | l :: ls, ps, s, hb, C, hP, ht, hd, hl => by
    obtain ⟨hd1, hd2⟩ := List.pairwise_cons.mp hd
    obtain ⟨hn, hc⟩ := hl l (.head _)
    refine wpAny_items_cons (then_ (lam_step h131 hg hcode hb C hP ht l hn hc) fun v s₁ g => ?_) (starEach_plain rfl)
    obtain ⟨a, fd, x, rfl, k, hP', hI⟩ := g
    refine then_ (lams_run h131 hg hcode ls _ s₁ (k.heap.bmain hb) (k.heap.codeHd C) hP' (triples_snoc ps ht) hd2 fun l' hl' => ⟨among_other (hd1 l' hl') ps ht (hl l' (.tail _ hl')).1, (hl l' (.tail _ hl')).2⟩) fun vs s₂ g₂ => ?_
    obtain ⟨ms, rfl, k₂, hM⟩ := g₂
    exact ⟨(a, fd) :: ms, rfl, k.trans k₂, .cons (hI.keep k₂.heap) hM⟩
noncomputable def lamEs : List Expr := match (bodyOf 17)[23]? with | some (Stmt.Assign _ (.List es _) _) => es | _ => []
noncomputable def lamAt (i : Nat) : Expr × Scope × Pos := match lamEs[i]? with | some (Expr.Lambda _ b sc p) => (b, sc, p) | _ => (.Name "" default, ⟨.function, [], false, false, []⟩, default)
noncomputable def lmOf (cl : Nat → List (Str × Addr)) (i : Nat) : Lm := ⟨(lamAt i).1, (lamAt i).2.1, (lamAt i).2.2, cl i⟩
noncomputable def lms (cl : Nat → List (Str × Addr)) : List Lm := [lmOf cl 0, lmOf cl 1, lmOf cl 2, lmOf cl 3, lmOf cl 4, lmOf cl 5]
theorem lms_apart (cl : Nat → List (Str × Addr)) : (lms cl).Pairwise fun a b => ¬ ((a.pos.line : Int) = b.pos.line ∧ (a.pos.col : Int) = b.pos.col) := by
  have h : [(lamAt 0).2.2, (lamAt 1).2.2, (lamAt 2).2.2, (lamAt 3).2.2, (lamAt 4).2.2, (lamAt 5).2.2].Pairwise fun (a b : Pos) => ¬ ((a.line : Int) = b.line ∧ (a.col : Int) = b.col) := by decide +kernel
  have e : (lms cl).map (·.pos) = [(lamAt 0).2.2, (lamAt 1).2.2, (lamAt 2).2.2, (lamAt 3).2.2, (lamAt 4).2.2, (lamAt 5).2.2] := rfl
  rw [← e] at h
  exact List.pairwise_map.mp h
/-- the statement that makes the lambdas -/
theorem tries_run {X : List Addr} {ρ : Vars} {rest : List Stmt} {Q : Flow → Shared → Prop} (h131 : 131 ∈ Lo.tabs) (hcode : env.code = .ref 133) (hn : env.scope.names = namesOf 17) (W : EnvOK none X s.heap env ρ) (hb : BMain s.heap) (C : CodeHd s.heap 133 131) (hP : s.heap.get? 131 = some (tabObj #[])) (cl : Nat → List (Str × Addr))
    (hcl : ∀ i, i < 6 → closureFor (lamAt i).2.1 env = pure (cl i))
    (h : ∀ (ms : List (Addr × FuncData)) (s' : Shared) (b : Addr), Made (env.qual ++ "<lambda>") s'.heap (lms cl) ms → EnvOK none X s'.heap env (("tries", .list (ms.map fun m => .val (.ref m.1))) :: ρ) → s'.os = s.os → (AllBare s.gens → AllBare s'.gens) →
      (b = env.locals ∨ env.cells.lookup ("tries" : Str) = some b) → (∀ b' o, b' ≠ b → s.heap.get? b' = some o → ∃ o', s'.heap.get? b' = some o' ∧ Turn b' o o') → wpAny (model c.prog c.w) A (execs bodyB env) Q E s') :
    wpAny (model c.prog c.w) A (execs ((bodyOf 17).drop 23) env) Q E s := by
  refine wpAny_execs_cons (wpAny_Assign_Name ?_ (by rfl))
  refine wpAny_List (then_ (lams_run h131 W.glob hcode (lms cl) [] s hb C hP trivial (lms_apart cl) ?_) fun vs s₁ g => ?_)
  · intro l hl
    refine ⟨by rfl, ?_⟩
    simp only [lms, List.mem_cons, List.not_mem_nil, or_false] at hl
    rcases hl with rfl | rfl | rfl | rfl | rfl | rfl
    · exact hcl 0 (by decide)
    · exact hcl 1 (by decide)
    · exact hcl 2 (by decide)
    · exact hcl 3 (by decide)
    · exact hcl 4 (by decide)
    · exact hcl 5 (by decide)
  obtain ⟨ms, rfl, k, hM⟩ := g
  have hlen : ms.length = 6 := hM.length
  have hR : ∀ (ms : List (Addr × FuncData)), Reps s₁.heap X (ms.map fun m => .ref m.1) (ms.map fun m => .val (.ref m.1)) := fun ms => by
    induction ms with
    | nil => exact .nil
    | cons m r ih => exact .cons (.val _) ih
  refine ⟨by rw [List.length_map, hlen]; decide, ?_⟩
  have W1 := W.keeps k.heap
  have k2 : Kp s₁ { s₁ with heap := s₁.heap.push { cls := .type "list", data := .seq (ms.map fun m => Value.ref m.1).toArray }, toks := s₁.toks } := .push
  have hRep := Rep.newList (tk := s₁.toks) (n := 0) W1.alive (hR ms) (by rw [List.length_map, hlen]; decide)
  have W2 := W1.keeps k2.heap
  refine wpAny_store W2 (W2.stores (.inl (by unfold Env.kindOf; rw [hn]; with_unfolding_all rfl))) (by intro y ds e; exact ns_ e) hRep.1 fun h' tk b W3 T => ?_
  have hbd : ∀ o, (s₁.heap.push { cls := .type "list", data := .seq (ms.map fun m => Value.ref m.1).toArray }).get? b = some o → (∃ es n, o.data = .dict es n) ∨ ∃ v, o.data = .cell v := fun o e => by
    rcases T.place with q | q
    · obtain ⟨m, o', es, ep, e', hd, _⟩ := W2.ns
      rw [q, e'] at e; obtain rfl := Option.some.inj e
      exact .inl ⟨_, _, hd⟩
    · obtain ⟨v, o', e', hd⟩ := W2.cells _ _ (mem_of_lookup q)
      rw [e'] at e; obtain rfl := Option.some.inj e
      exact .inr ⟨_, hd⟩
  exact h ms _ b ((hM.keep k2.heap).same T.same hbd) W3 k.os k.gens T.place fun b' o hne e => by
    obtain ⟨o', e', t⟩ := (k.trans k2).heap.all b' o e
    exact ⟨o', (T.same.2 b' hne).trans e', t⟩
end
end
section
open PySem PySem.W PyProof.Rows
variable [Lo]
set_option maxRecDepth 100000
theorem EnvOK.nothing : True := trivial
/-- a name's cell -/
noncomputable def CellIs (h : Heap) (env : Env) (x : Str) (d : D) : Prop := ∃ ca v, env.cells.lookup x = some ca ∧ h.IsCell ca (some v) ∧ Rep h [] v d
theorem CellIs.keep {h h' : Heap} {env : Env} {x : Str} {d : D} (k : Keep h h') : CellIs h env x d → CellIs h' env x d := fun ⟨ca, v, e, c, r⟩ => ⟨ca, v, e, k.cell c, r.keeps k⟩
/-- a closure of the law's frame -/
structure ClosOK (env : Env) (names : Names) (cl : List (Str × Addr)) : Prop where
  from' : ∀ x a, (x, a) ∈ cl → names.lookup x = some .free ∧ env.cells.lookup x = some a
  apart : cl.Pairwise fun x y => x.2 ≠ y.2
  free : ∀ x, names.lookup x = some .free → ∃ a, cl.lookup x = some a
section
variable {c : Cfg} {C : Addr} {n : Nat}
theorem isLam_of {l : Lm} {q : Str} {a : Addr} {fd : FuncData} {env : Env} {ρ : Vars} (hfr : c.frames = none) {h₀ : Heap} (hW₀ : c.Wf h₀) (hat : ∀ h, c.Wf h → l.Is q h a fd ∧ h.NoLimit) (hk : l.scope.kind = .function) (hco : l.scope.isCoroutine = false) (hge : l.scope.isGenerator = false)
    (hnc : ∀ x, (x, NameKind.cell) ∉ l.scope.names) (O : ClosOK env l.scope.names l.clos) (hcells : ∀ h, c.Wf h → ∀ x a, (x, a) ∈ l.clos → ∃ v, h.IsCell a v)
    (hcaps : ∀ x d, ρ.lookup x = some d → Atom d ∧ l.scope.names.lookup x = some .free ∧ (x == ("__classdict__" : Str)) = false ∧ ∀ h, c.Wf h → CellIs h env x d) :
    IsLam c a fd l.body ρ ∧ fd.scope.names = l.scope.names := by
  obtain ⟨pm, c', ctv, hfd⟩ := (hat h₀ hW₀).1.fd
  subst hfd
  refine ⟨⟨fun h hW => ⟨_, (hat h hW).1.at', rfl, (hat h hW).2, (hat h hW).1.code⟩, hfr, rfl, rfl, hk, hco, hge, rfl, rfl, hnc, O.apart, fun h hW x ca hm => ⟨hcells h hW x ca hm, (O.from' x ca hm).1⟩, O.free, fun h hW x d hx => ?_⟩, rfl⟩
  obtain ⟨ha, hf, hcd, hc⟩ := hcaps x d hx
  obtain ⟨ca, v, e1, e2, e3⟩ := hc h hW
  obtain ⟨a', ha'⟩ := O.free x hf
  have := (O.from' x a' (mem_of_lookup ha')).2
  rw [e1] at this
  obtain rfl := Option.some.inj this
  exact ⟨ca, v, ha', e2, e3, ha, hf, hcd⟩
theorem one_handed {l : Lm} {q : Str} {a : Addr} {fd : FuncData} {env : Env} {ρ : Vars} {x : Str} {xp pos : Pos} {as : List Expr} {kws : List Keyword} {f : Value} {ds : List D} {ks : List (Str × D)} {msg : Str} (hfr : c.frames = none) {h₀ : Heap} (hW₀ : c.Wf h₀) (hat : ∀ h, c.Wf h → l.Is q h a fd ∧ h.NoLimit) (hb : l.body = .Call (.Name x xp) as kws pos)
    (hk : l.scope.kind = .function) (hco : l.scope.isCoroutine = false) (hge : l.scope.isGenerator = false)
    (hnc : ∀ x, (x, NameKind.cell) ∉ l.scope.names) (O : ClosOK env l.scope.names l.clos) (hcells : ∀ h, c.Wf h → ∀ x a, (x, a) ∈ l.clos → ∃ v, h.IsCell a v)
    (hcaps : ∀ x d, ρ.lookup x = some d → Atom d ∧ l.scope.names.lookup x = some .free ∧ (x == ("__classdict__" : Str)) = false ∧ ∀ h, c.Wf h → CellIs h env x d)
    (hf : Ev c n l.scope.names none ρ (.Name x xp) (.val f)) (ha : Evs c n l.scope.names none ρ as ds) (hkw : Kws c n l.scope.names none ρ kws ks) (h : FnR c n f ds ks C msg) (hs : noStars as = true) : FnR c (n + 1) (.ref a) [] [] C msg := by
  obtain ⟨F, e⟩ := isLam_of (ρ := ρ) hfr hW₀ hat hk hco hge hnc O hcells hcaps
  rw [hb] at F
  exact FnR.lam F (by rw [e]; exact hf) (by rw [e]; exact ha) (by rw [e]; exact hkw) h hs
end
end
section
open PySem PySem.W PyProof.Rows
variable [Lo]
set_option maxRecDepth 100000
/-- what the second half stands on -/
structure XB (q : Str) (env : Env) (cl : Nat → List (Str × Addr)) (ms : List (Addr × FuncData)) (k f s : Int) (h : Heap) : Prop where
  made : Made q h (lms cl) ms
  cells : ∀ i, i < 6 → ∀ x a, (x, a) ∈ cl i → ∃ v, h.IsCell a v
  count : CellIs h env "count" (.int k)
  first : CellIs h env "first" (.int f)
  stop : CellIs h env "stop" (.int s)
theorem XB.keep {q : Str} {env : Env} {cl : Nat → List (Str × Addr)} {ms : List (Addr × FuncData)} {k f s : Int} (h h' : Heap) (K : Keep h h') (x : XB q env cl ms k f s h) : XB q env cl ms k f s h' :=
  ⟨x.made.keep K, fun i hi y a hm => by obtain ⟨v, hv⟩ := x.cells i hi y a hm; exact ⟨v, K.cell hv⟩, x.count.keep K, x.first.keep K, x.stop.keep K⟩
section
variable {prog : Program} {w : World} {P : Params} {L : Lays P} {n : Nat} {q : Str} {env : Env} {cl : Nat → List (Str × Addr)} {ms : List (Addr × FuncData)} {k f s : Int}
noncomputable abbrev cB (prog : Program) (w : World) (P : Params) (L : Lays P) (q : Str) (env : Env) (cl : Nat → List (Str × Addr)) (ms : List (Addr × FuncData)) (k f s : Int) : Cfg := theCfg prog w P L (XB q env cl ms k f s) XB.keep none
noncomputable abbrev cB' (prog : Program) (w : World) (P : Params) (L : Lays P) (q : Str) (env : Env) (cl : Nat → List (Str × Addr)) (ms : List (Addr × FuncData)) (k f s : Int) : Cfg :=
  theCfg prog w P L (fun h => XB q env cl ms k f s h ∧ FrameAt h env) (fun h h' K x => ⟨XB.keep h h' K x.1, x.2.keep K⟩) (some [env])
/-- the handler's def, called with a lambda that is refused -/
theorem fnRef {lam : Value} {msg : Str} (hm : msg.length ≤ lim) (hl : FnR (cB prog w P L q env cl ms k f s) n lam [] [] 59 msg) : Fn (cB' prog w P L q env cl ms k f s) (n + 1) (.ref 124) [.val lam] [] (.str msg) where
  callee := fun h hW => by
    obtain ⟨o, h1, h2, _⟩ := defOk_at (K := hd.heap_39 P) (a := 124) (by kernel_rfl)
    exact .func (hW.1.K _ _ h1) h2
  run := fun A X s' E vs kvs hA hW hX r rk => by
    obtain ⟨v, rfl, r'⟩ := Reps.one r
    obtain rfl := Reps.none rk
    obtain rfl := r'.inv
    have hfr : A.frames = some [env] := hA.frames _ rfl
    have hA' : OkA (cB prog w P L q env cl ms k f s) (n + 1) A := ⟨hA.handled, hA.depth, hA.units, fun l e => by cases e⟩
    exact refused_run (c := cB prog w P L q env cl ms k f s) (isDef (by kernel_rfl)) (xc := "call") (xf := "fault") (xs := "StatisticsError") (xstr := "str") (by kernel_rfl : (fdIn (hd.heap_39 P) 124).body = .stmts (bodyOf 15)) (by kernel_rfl) (by kernel_rfl) (by kernel_rfl) (by kernel_rfl) (by decide +kernel)
      (by with_unfolding_all rfl) (by with_unfolding_all rfl) serr (by decide +kernel) (by decide +kernel) (by decide +kernel) (by decide +kernel) (BindsTo.of_eq (by kernel_rfl)) hl hm hA' hfr (fun g hg => by rw [List.mem_singleton.mp hg]; exact hW.2.2) ⟨hW.1, hW.2.1⟩ hX
end
end
section
open PySem PySem.W PyProof.Rows
variable [Lo]
set_option maxRecDepth 100000
section
variable {prog : Program} {w : World} {P : Params} {L : Lays P} {n : Nat} {q : Str} {env : Env} {cl : Nat → List (Str × Addr)} {ms : List (Addr × FuncData)} {k f s : Int}
theorem lookup1 {x y : Str} {d e : D} (h : [(y, e)].lookup x = some d) : x = y ∧ d = e := by
  rw [List.lookup_cons] at h
  cases hb : x == y with
  | true => rw [hb] at h; obtain rfl := Option.some.inj h; exact ⟨beq_iff_eq.mp hb, rfl⟩
  | false => rw [hb] at h; cases h
theorem lookup2 {x y z : Str} {d e g : D} (h : [(y, e), (z, g)].lookup x = some d) : (x = y ∧ d = e) ∨ (x = z ∧ d = g) := by
  rw [List.lookup_cons] at h
  cases hb : x == y with
  | true => rw [hb] at h; obtain rfl := Option.some.inj h; exact .inl ⟨beq_iff_eq.mp hb, rfl⟩
  | false => rw [hb] at h; exact .inr (lookup1 h)
theorem no_cell {names : Names} (h : names.all (fun p => p.2 != .cell) = true) : ∀ x, (x, NameKind.cell) ∉ names := fun x hm => by
  have := List.all_eq_true.mp h _ hm
  simp at this
variable {h₀ : Heap} (hW₀ : (cB prog w P L q env cl ms k f s).Wf h₀) (hO : ∀ i, i < 6 → ClosOK env (lamAt i).2.1.names (cl i))
  {a0 a1 a2 a3 a4 a5 : Addr} {f0 f1 f2 f3 f4 f5 : FuncData} (hms : ms = [(a0, f0), (a1, f1), (a2, f2), (a3, f3), (a4, f4), (a5, f5)])
include hW₀ hO hms
theorem hand0 : FnR (cB prog w P L q env cl ms k f s) (n + 2) (.ref a0) [] [] 59 "no median for empty data" := by
  refine one_handed (q := q) (fd := f0) (l := lmOf cl 0) (ρ := []) rfl hW₀ (fun h hW => ⟨?_, hW.1.nl⟩) (by with_unfolding_all rfl) (by rfl) (by rfl) (by rfl) (no_cell (by kernel_rfl)) (hO 0 (by decide)) (fun h hW => hW.2.cells 0 (by decide)) (fun x d hx => by cases hx) (f := .ref 69) (ds := [LI []]) (ks := []) ?_ ?_ ?_ (r_low (n := n)) rfl
  · have := hW.2.made; rw [hms] at this
    exact this.uncons.1
  · exact Ev.glob (by with_unfolding_all rfl) (by with_unfolding_all rfl) (by decide +kernel)
  · exact Evs.cons (Ev.list Evs.nil (by decide)) Evs.nil
  · exact Kws.nil
theorem hand1 : FnR (cB prog w P L q env cl ms k f s) (n + 2) (.ref a1) [] [] 59 "no median for empty data" := by
  refine one_handed (q := q) (fd := f1) (l := lmOf cl 1) (ρ := []) rfl hW₀ (fun h hW => ⟨?_, hW.1.nl⟩) (by with_unfolding_all rfl) (by rfl) (by rfl) (by rfl) (no_cell (by kernel_rfl)) (hO 1 (by decide)) (fun h hW => hW.2.cells 1 (by decide)) (fun x d hx => by cases hx) (f := .ref 76) (ds := [LI []]) (ks := []) ?_ ?_ ?_ (r_high (n := n)) rfl
  · have := hW.2.made; rw [hms] at this
    exact this.uncons.2.uncons.1
  · exact Ev.glob (by with_unfolding_all rfl) (by with_unfolding_all rfl) (by decide +kernel)
  · exact Evs.cons (Ev.list Evs.nil (by decide)) Evs.nil
  · exact Kws.nil
theorem hand2 (hk : 0 ≤ k) : FnR (cB prog w P L q env cl ms k f s) (n + 2) (.ref a2) [] [] 59 "must have at least one data point" := by
  refine one_handed (q := q) (fd := f2) (l := lmOf cl 2) (ρ := [("count", .int k)]) rfl hW₀ (fun h hW => ⟨?_, hW.1.nl⟩) (by with_unfolding_all rfl) (by rfl) (by rfl) (by rfl) (no_cell (by kernel_rfl)) (hO 2 (by decide)) (fun h hW => hW.2.cells 2 (by decide)) (fun x d hx => ?_) (f := .ref 84) (ds := [LI []]) (ks := [("n", .int (k + 1))]) ?_ ?_ ?_ (r_quant1 (n := n) (k + 1) (by exact z522 hk)) rfl
  · have := hW.2.made; rw [hms] at this
    exact this.uncons.2.uncons.2.uncons.1
  · obtain ⟨rfl, rfl⟩ := lookup1 hx
    exact ⟨.int _, by with_unfolding_all rfl, by decide +kernel, fun h hW => hW.2.count⟩
  · exact Ev.glob (by with_unfolding_all rfl) (by with_unfolding_all rfl) (by decide +kernel)
  · exact Evs.cons (Ev.list Evs.nil (by decide)) Evs.nil
  · walk_at "ev"
theorem hand3 : FnR (cB prog w P L q env cl ms k f s) (n + 2) (.ref a3) [] [] 59 "n must be at least 1" := by
  refine one_handed (q := q) (fd := f3) (l := lmOf cl 3) (ρ := [("first", .int f), ("stop", .int s)]) rfl hW₀ (fun h hW => ⟨?_, hW.1.nl⟩) (by with_unfolding_all rfl) (by rfl) (by rfl) (by rfl) (no_cell (by kernel_rfl)) (hO 3 (by decide)) (fun h hW => hW.2.cells 3 (by decide)) (fun x d hx => ?_) (f := .ref 84) (ds := [LI [f, s]]) (ks := [("n", .int 0)]) ?_ ?_ ?_ (r_quant0 (n := n) [f, s] 0 (by decide)) rfl
  · have := hW.2.made; rw [hms] at this
    exact this.uncons.2.uncons.2.uncons.2.uncons.1
  · rcases lookup2 hx with ⟨rfl, rfl⟩ | ⟨rfl, rfl⟩
    · exact ⟨.int _, by with_unfolding_all rfl, by decide +kernel, fun h hW => hW.2.first⟩
    · exact ⟨.int _, by with_unfolding_all rfl, by decide +kernel, fun h hW => hW.2.stop⟩
  · exact Ev.glob (by with_unfolding_all rfl) (by with_unfolding_all rfl) (by decide +kernel)
  · show Evs _ _ _ _ _ _ [.list [.int f, .int s]]
    exact Evs.cons (Ev.list (by walk_at "ev") (by simp [lim])) Evs.nil
  · walk_at "ev"
theorem hand4 : FnR (cB prog w P L q env cl ms k f s) (n + 2) (.ref a4) [] [] 59 "covariance requires at least two data points" := by
  refine one_handed (q := q) (fd := f4) (l := lmOf cl 4) (ρ := [("first", .int f), ("stop", .int s)]) rfl hW₀ (fun h hW => ⟨?_, hW.1.nl⟩) (by with_unfolding_all rfl) (by rfl) (by rfl) (by rfl) (no_cell (by kernel_rfl)) (hO 4 (by decide)) (fun h hW => hW.2.cells 4 (by decide)) (fun x d hx => ?_) (f := .ref 91) (ds := [.list [.int f], .list [.int s]]) (ks := []) ?_ ?_ ?_ (r_cov2 (n := n) [.int f] [.int s] rfl (by simp)) rfl
  · have := hW.2.made; rw [hms] at this
    exact this.uncons.2.uncons.2.uncons.2.uncons.2.uncons.1
  · rcases lookup2 hx with ⟨rfl, rfl⟩ | ⟨rfl, rfl⟩
    · exact ⟨.int _, by with_unfolding_all rfl, by decide +kernel, fun h hW => hW.2.first⟩
    · exact ⟨.int _, by with_unfolding_all rfl, by decide +kernel, fun h hW => hW.2.stop⟩
  · exact Ev.glob (by with_unfolding_all rfl) (by with_unfolding_all rfl) (by decide +kernel)
  · exact Evs.cons (Ev.list (by walk_at "ev") (by simp [lim])) (Evs.cons (Ev.list (by walk_at "ev") (by simp [lim])) Evs.nil)
  · exact Kws.nil
theorem hand5 : FnR (cB prog w P L q env cl ms k f s) (n + 2) (.ref a5) [] [] 59 "covariance requires that both inputs have same number of data points" := by
  refine one_handed (q := q) (fd := f5) (l := lmOf cl 5) (ρ := [("first", .int f), ("stop", .int s)]) rfl hW₀ (fun h hW => ⟨?_, hW.1.nl⟩) (by with_unfolding_all rfl) (by rfl) (by rfl) (by rfl) (no_cell (by kernel_rfl)) (hO 5 (by decide)) (fun h hW => hW.2.cells 5 (by decide)) (fun x d hx => ?_) (f := .ref 91) (ds := [.list [.int f, .int s], .list [.int f]]) (ks := []) ?_ ?_ ?_ (r_cov1 (n := n) [.int f, .int s] [.int f] (by simp)) rfl
  · have := hW.2.made; rw [hms] at this
    exact this.uncons.2.uncons.2.uncons.2.uncons.2.uncons.2.uncons.1
  · rcases lookup2 hx with ⟨rfl, rfl⟩ | ⟨rfl, rfl⟩
    · exact ⟨.int _, by with_unfolding_all rfl, by decide +kernel, fun h hW => hW.2.first⟩
    · exact ⟨.int _, by with_unfolding_all rfl, by decide +kernel, fun h hW => hW.2.stop⟩
  · exact Ev.glob (by with_unfolding_all rfl) (by with_unfolding_all rfl) (by decide +kernel)
  · exact Evs.cons (Ev.list (by walk_at "ev") (by simp [lim])) (Evs.cons (Ev.list (by walk_at "ev") (by simp [lim])) Evs.nil)
  · exact Kws.nil
end
end
section
open PySem PySem.W PyProof.Rows
variable [Lo]
set_option maxRecDepth 100000
section
variable {prog : Program} {w : World} {P : Params} {L : Lays P} {n : Nat} {q : Str} {env : Env} {cl : Nat → List (Str × Addr)} {ms : List (Addr × FuncData)} {k f s : Int}
theorem Is.ne {l l' : Lm} {h : Heap} {a a' : Addr} {fd fd' : FuncData} (x : l.Is q h a fd) (y : l'.Is q h a' fd') (hp : l.body.pos ≠ l'.body.pos) : a ≠ a' := by
  rintro rfl
  have e := x.at'
  rw [y.at'] at e
  cases e
  obtain ⟨_, _, _, e1⟩ := x.fd
  obtain ⟨_, _, _, e2⟩ := y.fd
  rw [e1] at e2
  have : l.body = l'.body := by
    have := congrArg FuncData.body e2
    injection this
  exact hp (by rw [this])
theorem Ex.up {names : Names} {cl' : List Str} {o : Own} {ρ : Vars} {st : List Stmt} {N : Own → Vars → Prop} {R : D → Prop} (h : Ex (cB prog w P L q env cl ms k f s) n names cl' o ρ st N R) : Ex (cB' prog w P L q env cl ms k f s) n names cl' o ρ st N R :=
  fun A env' X X₀ s₀ s' E hA hn hW W B x => h A env' X X₀ s₀ s' E ⟨hA.handled, hA.depth, hA.units, fun l e => by cases e⟩ hn (fun o X ρ s'' W' B' => ⟨(hW o X ρ s'' W' B').1, (hW o X ρ s'' W' B').2.1⟩) W B x
theorem Made.apart {h : Heap} {ls : List Lm} {ms : List (Addr × FuncData)} (x : Made q h ls ms) (hp : ls.Pairwise fun a b => a.body.pos ≠ b.body.pos) : (ms.map (·.1)).Nodup := by
  induction x with
  | nil => exact .nil
  | cons x r ih =>
    rw [List.pairwise_cons] at hp
    exact List.nodup_cons.mpr ⟨fun hm => by obtain ⟨l, hl, fd, y⟩ := r.mem _ hm; exact Is.ne x y (hp.1 l hl) rfl, ih hp.2⟩
theorem lmS {α : Type} {n : Nat} {vs : List α} (h : vs.length = n + 1) : ∃ a r, vs = a :: r ∧ r.length = n := by
  cases vs with
  | nil => exact absurd h (Nat.succ_ne_zero _).symm
  | cons a r => exact ⟨a, r, rfl, Nat.succ.inj h⟩
theorem len6 {α : Type} {vs : List α} (h : vs.length = 6) : ∃ a b c d e f, vs = [a, b, c, d, e, f] := by
  obtain ⟨a, r, e, h⟩ := lmS h
  obtain ⟨b, r, e1, h⟩ := lmS h
  obtain ⟨c, r, e2, h⟩ := lmS h
  obtain ⟨d, r, e3, h⟩ := lmS h
  obtain ⟨f, r, e4, h⟩ := lmS h
  obtain ⟨g, e5⟩ := List.length_eq_one_iff.mp h
  exact ⟨a, b, c, d, f, g, by rw [e, e1, e2, e3, e4, e5]⟩
/-- what the handler's def says of each -/
noncomputable def sayOf (as : List Addr) : D → D
  | .val (.ref a) => .str (msgs.getD (as.idxOf a) "")
  | d => d
theorem say_at {as : List Addr} (hn : as.Nodup) (i : Nat) (hi : i < as.length) : sayOf as (.val (.ref as[i])) = .str (msgs.getD i "") := by
  show D.str _ = _
  rw [hn.idxOf_getElem i hi]
theorem bodies_apart : (lms cl).Pairwise fun a b => a.body.pos ≠ b.body.pos := by
  have h : [(lamAt 0).1.pos, (lamAt 1).1.pos, (lamAt 2).1.pos, (lamAt 3).1.pos, (lamAt 4).1.pos, (lamAt 5).1.pos].Pairwise fun (a b : Pos) => a ≠ b := by decide +kernel
  have e : (lms cl).map (fun l => l.body.pos) = [(lamAt 0).1.pos, (lamAt 1).1.pos, (lamAt 2).1.pos, (lamAt 3).1.pos, (lamAt 4).1.pos, (lamAt 5).1.pos] := rfl
  rw [← e] at h
  exact List.pairwise_map.mp h
theorem half_two {s₂ s' : Shared} {A : Around} {E : Value → Shared → Prop} {X : List Addr} {ρ : Vars} {script : List Int} (hW₀ : (cB prog w P L q env cl ms k f s).Wf s₂.heap) (hO : ∀ i, i < 6 → ClosOK env (lamAt i).2.1.names (cl i))
    (hk : k = dK script) (hlen : ms.length = 6) (hA : OkA (cB' prog w P L q env cl ms k f s) (n + 3) A) (hn : env.scope.names = namesOf 17) (hfr : env.frame = some env.locals) (W : EnvOK none X s'.heap env ρ) (B : Base clB s₂ env s')
    (hρ : Sub (("tries", .list (ms.map fun m => .val (.ref m.1))) :: vN script) ρ) :
    wpAny (model prog w) A (execs bodyB env) (fun f s'' => f = .ret (.bool true) ∧ Kp s₂ s'') E s' := by
  obtain ⟨⟨a0, f0⟩, ⟨a1, f1⟩, ⟨a2, f2⟩, ⟨a3, f3⟩, ⟨a4, f4⟩, ⟨a5, f5⟩, hms⟩ := len6 hlen
  have hM := hW₀.2.made
  have hN : [a0, a1, a2, a3, a4, a5].Nodup := by
    have := hM.apart bodies_apart
    rw [hms] at this; exact this
  clear hM
  have g0 : sayOf [a0, a1, a2, a3, a4, a5] (.val (.ref a0)) = .str "no median for empty data" := say_at hN 0 (show 0 < 6 by decide)
  have g1 : sayOf [a0, a1, a2, a3, a4, a5] (.val (.ref a1)) = .str "no median for empty data" := say_at hN 1 (show 1 < 6 by decide)
  have g2 : sayOf [a0, a1, a2, a3, a4, a5] (.val (.ref a2)) = .str "must have at least one data point" := say_at hN 2 (show 2 < 6 by decide)
  have g3 : sayOf [a0, a1, a2, a3, a4, a5] (.val (.ref a3)) = .str "n must be at least 1" := say_at hN 3 (show 3 < 6 by decide)
  have g4 : sayOf [a0, a1, a2, a3, a4, a5] (.val (.ref a4)) = .str "covariance requires at least two data points" := say_at hN 4 (show 4 < 6 by decide)
  have g5 : sayOf [a0, a1, a2, a3, a4, a5] (.val (.ref a5)) = .str "covariance requires that both inputs have same number of data points" := say_at hN 5 (show 5 < 6 by decide)
  clear hN
  have hk0 : 0 ≤ k := by rw [hk]; unfold dK; exact z342
  have hex : Ex (cB' prog w P L q env cl ms k f s) (n + 3) (namesOf 17) clB none ρ bodyB (fun _ _ => False) (· = .bool true) := by
    refine lawB0 (c := cB' prog w P L q env cl ms k f s) (by with_unfolding_all rfl) (sayOf [a0, a1, a2, a3, a4, a5]) [.val (.ref a0), .val (.ref a1), .val (.ref a2), .val (.ref a3), .val (.ref a4), .val (.ref a5)] (by simp) (fun d hd => ?_) ?_ ρ (vN script) (fun x d hx => ?_) (by rw [hρ _ _ (by rw [List.lookup_cons]; simp; rfl), hms]; rfl) (by with_unfolding_all rfl) fun ρ hρ => ?_
    · simp only [List.mem_cons, List.not_mem_nil, or_false] at hd
      rcases hd with rfl | rfl | rfl | rfl | rfl | rfl
      · rw [g0]; exact fnRef (by decide) (hand0 (n := n) hW₀ hO hms)
      · rw [g1]; exact fnRef (by decide) (hand1 (n := n) hW₀ hO hms)
      · rw [g2]; exact fnRef (by decide) (hand2 (n := n) hW₀ hO hms hk0)
      · rw [g3]; exact fnRef (by decide) (hand3 (n := n) hW₀ hO hms)
      · rw [g4]; exact fnRef (by decide) (hand4 (n := n) hW₀ hO hms)
      · rw [g5]; exact fnRef (by decide) (hand5 (n := n) hW₀ hO hms)
    · simp only [List.map_cons, List.map_nil, g0, g1, g2, g3, g4, g5]; rfl
    · refine hρ _ _ ?_
      rw [List.lookup_cons]
      cases hb : x == ("tries" : Str) with
      | true =>
        have h0 : (vN script).lookup ("tries" : Str) = none := by with_unfolding_all rfl
        rw [beq_iff_eq.mp hb, h0] at hx; exact ns_ hx
      | false => exact hx
    · refine Ex.up (lawB' (globs (P := P)) (theFns (n := n + 1)) script ρ (fun x d hx => hρ x d ?_) rfl)
      revert hx
      unfold vN
      simp only [List.lookup_cons, List.lookup_nil]
      repeat' split
      all_goals simp
  refine then_ (hex A env X X s₂ s' E hA hn (fun o X ρ s'' W' B' => ?_) W B rfl) fun fl s'' a => ?_
  · have hW' := (cB prog w P L q env cl ms k f s).keeps _ _ B'.kp.heap hW₀
    exact ⟨hW'.1, hW'.2, frameAt_of_ns W'.kind hfr (old_none (c := cB prog w P L q env cl ms k f s) _ hW₀ B'.loc) W'.ns⟩
  · cases fl with
    | next => obtain ⟨_, _, _, hN, _⟩ := a; exact hN.elim
    | ret v =>
      obtain ⟨d, rfl, r, kp⟩ := a
      obtain rfl := r.inv
      exact ⟨rfl, kp⟩
    | brk => exact a.elim
    | cont => exact a.elim
end
end
section
open PySem PySem.W PyProof.Rows
set_option maxRecDepth 100000
/-- the addresses that stand; the tables that may grow -/
noncomputable abbrev loOf (h : Heap) (ts : List Addr) : Lo := ⟨fun b => (h.get? b).isSome, ts⟩
theorem Keep.wider {h₀ : Heap} {ts ts' : List Addr} (hts : ∀ b ∈ ts, b ∈ ts') {h h' : Heap} (k : @Keep (loOf h₀ ts) h h') : @Keep (loOf h₀ ts') h h' := by
  refine @Keep.mk (loOf h₀ ts') h h' fun b o e => ?_
  obtain ⟨o', e', t⟩ := @Keep.all (loOf h₀ ts) _ _ k b o e
  refine ⟨o', e', ?_⟩
  cases t with
  | same => exact @Turn.same (loOf h₀ ts') b _
  | table hb ht => exact @Turn.table (loOf h₀ ts') b _ _ (hts b hb) ht
  | frame sl h1 h2 => exact @Turn.frame (loOf h₀ ts') b _ sl h1 h2
section
variable [Lo]
theorem execs_both (b : List Stmt) (env : Env) : ∀ a : List Stmt, execs (a ++ b) env = (do match ← execs a env with | .next => execs b env | f => pure f)
  | [] => by
    exact (pure_bind (m := Sem) Flow.next (fun f : Flow => match f with | .next => execs b env | f => pure f)).symm
  | st :: r => by
    rw [List.cons_append, execs_cons, execs_cons, bind_assoc]
    congr 1
    funext f
    cases f with
    | next => exact execs_both b env r
    | ret v => exact (pure_bind _ _).symm
    | brk => exact (pure_bind _ _).symm
    | cont => exact (pure_bind _ _).symm
theorem execs_split {c : Cfg} {A : Around} {E : Value → Shared → Prop} {env : Env} {Q : Flow → Shared → Prop} (b : List Stmt) (a : List Stmt) (s : Shared) (h : wpAny (model c.prog c.w) A (execs a env) (fun f s' => match f with | .next => wpAny (model c.prog c.w) A (execs b env) Q E s' | f => Q f s') E s) :
    wpAny (model c.prog c.w) A (execs (a ++ b) env) Q E s := by
  rw [execs_both]
  refine wpAny_bind (then_ h fun f s' q => ?_)
  cases f with
  | next => exact q
  | ret v => exact wpAny_pure q
  | brk => exact wpAny_pure q
  | cont => exact wpAny_pure q
theorem Lm.Is.hide {l : Lm} {q : Str} {h : Heap} {a : Addr} {fd : FuncData} {hid : List Addr} (hb : ∀ b ∈ hid, ∀ o, h.get? b = some o → (∃ es n, o.data = .dict es n) ∨ ∃ v, o.data = .cell v) (x : l.Is q h a fd) : l.Is q (hideAll h hid) a fd := by
  refine ⟨hideAll_get _ x.at' fun hm => ?_, ?_, x.fd⟩
  · rcases hb _ hm _ x.at' with ⟨es, n, e⟩ | ⟨v, e⟩ <;> cases e
  · obtain ⟨c, o, vs, t, e1, e2, e3, e4⟩ := x.code
    refine ⟨c, o, vs, t, e1, hideAll_get _ e2 fun hm => ?_, e3, e4⟩
    rcases hb _ hm _ e2 with ⟨es, n, e⟩ | ⟨v, e⟩ <;> rw [e3] at e <;> cases e
theorem Made.hide {q : Str} {h : Heap} {hid : List Addr} (hb : ∀ b ∈ hid, ∀ o, h.get? b = some o → (∃ es n, o.data = .dict es n) ∨ ∃ v, o.data = .cell v) {ls : List Lm} {ms : List (Addr × FuncData)} (x : Made q h ls ms) : Made q (hideAll h hid) ls ms := x.map fun _ _ _ x => x.hide hb
end
/-- what the call finds -/
structure Raw (P : Params) (h : Heap) : Prop where
  K : (hd.heap_39 P).In h
  nl : h.NoLimit
  bm : BMain h
  bl : ∃ mb, h.Ns builtinsNs mb ∧ ∀ x : Str, x ≠ "__name__" → mb x = bootBuiltins x
  mn : ∃ mg, h.Ns mainGlobals mg
  ct : ∃ ps, h.IsCode 90 86 ps ∧ h.TableAt 90 86 ps
  t131 : h.get? 131 = some (tabObj #[])
  hd131 : CodeHd h 133 131
theorem Raw.std {P : Params} {h : Heap} (R : Raw P h) {ts : List Addr} (h86 : 86 ∈ ts) : @Std (loOf h ts) P h :=
  @Std.mk (loOf h ts) P h R.K R.nl R.bm R.bl R.mn (by obtain ⟨ps, a, b⟩ := R.ct; exact ⟨86, ps, h86, a, b⟩) fun b hb => Option.isSome_iff_exists.mp hb
theorem Raw.lays {P : Params} {h : Heap} (R : Raw P h) {ts : List Addr} (hts : ∀ b ∈ ts, b = 86 ∨ b = 131) : @Lays (loOf h ts) P :=
  @Lays.mk (loOf h ts) P (fun a o e => by show (h.get? a).isSome = true; rw [R.K a o e]; rfl) hts
end
section
open PySem PySem.W PyProof.Rows
set_option maxRecDepth 100000
theorem lam_frees : ∀ i, i < 6 → ((lamAt i).2.1.names.all fun p => p.2 != .free || (["count", "first", "stop"] : List Str).contains p.1) = true := by decide +kernel
theorem lam_comp : ∀ i, i < 6 → compOK (namesOf 17) (lamAt i).2.1 = true := by decide +kernel
section
variable [Lo]
/-- a cell's name as the frame sees it -/
theorem cell_of {h : Heap} {env : Env} {ρ : Vars} {X : List Addr} {x : Str} {i : Int} (W : EnvOK none X h env ρ) (hk : env.kindOf x = some .cell) (hx : ρ.lookup x = some (.int i)) : CellIs h env x (.int i) := by
  obtain ⟨v, l, r⟩ := W.look x _ hx
  have r' : Rep h [] v (.int i) := Atom.rep (.int i) r
  cases l with
  | loc a => rw [hk] at a; cases a
  | cell a b c => exact ⟨_, v, b, c, r'⟩
  | free a => rw [hk] at a; cases a
  | glob a => rw [hk] at a; cases a
  | built a => rw [hk] at a; cases a
end
noncomputable def hidOf (env : Env) : List Addr := env.locals :: ((env.cells.map (·.1)).filter fun x => !clB.contains x).filterMap fun x => env.cells.lookup x
theorem second_half {prog : Program} {w : World} {P : Params} {h₀ : Heap} (R : Raw P h₀) {s : Shared} {env : Env} {X : List Addr} {ρ : Vars} {script : List Int} {A : Around} {E : Value → Shared → Prop} (kA : @Keep (loOf h₀ [86]) h₀ s.heap) (W : EnvOK none X s.heap env ρ) (hρ : Sub (vN script) ρ)
    (hn : env.scope.names = namesOf 17) (hcode : env.code = .ref 133) (hfr : env.frame = some env.locals) (hL : h₀.get? env.locals = none) (hC : ∀ x c, env.cells.lookup x = some c → h₀.get? c = none)
    (a1 : A.handled = none) (a2 : A.depth + 6 < recursionLimit) (a3 : A.units + 50 * 6 + 50 < cLine) (a4 : A.frames = some [env]) :
    wpAny (model prog w) A (execs ((bodyOf 17).drop 23) env) (fun f s' => f = .ret (.bool true) ∧ @Keep (loOf h₀ [86, 131]) h₀ s'.heap ∧ s'.os = s.os ∧ (AllBare s.gens → AllBare s'.gens)) E s := by
  letI : Lo := loOf h₀ [86, 131]
  have kW : Keep h₀ s.heap := Keep.wider (ts := [86]) (ts' := [86, 131]) (by decide) kA
  have L : Lays P := R.lays (by decide)
  have t131 : s.heap.get? 131 = some (tabObj #[]) := @Keep.at' (loOf h₀ [86]) _ _ kA 131 _ R.t131 (by rfl)
  -- the closures
  have hcl0 : ∀ i, i < 6 → ∃ cl, closureFor (lamAt i).2.1 env = pure cl ∧ ClosOK env (lamAt i).2.1.names cl := fun i hi => by
    obtain ⟨cl, e1, e2, e3, e4, _⟩ := closure_ok (lam_comp i hi) hn W
    exact ⟨cl, e1, fun x a hm => (e2 x a hm).2, e3, e4⟩
  obtain ⟨cl, hcl⟩ : ∃ cl : Nat → List (Str × Addr), ∀ i, i < 6 → closureFor (lamAt i).2.1 env = pure (cl i) ∧ ClosOK env (lamAt i).2.1.names (cl i) := by
    refine ⟨fun i => if h : i < 6 then Classical.choose (hcl0 i h) else [], fun i hi => ?_⟩
    simp only [dif_pos hi]
    exact Classical.choose_spec (hcl0 i hi)
  refine tries_run (rest := []) (c := theCfg prog w P L (fun _ => True) (fun _ _ _ _ => trivial) none) (by show 131 ∈ ([86, 131] : List Addr); decide) hcode hn W (kW.bmain R.bm) (kW.codeHd R.hd131) t131 cl (fun i hi => (hcl i hi).1) fun ms s₁ b hM W₁ hos hg hb hst => ?_
  have hhid : ∀ b ∈ hidOf env, b = env.locals ∨ ∃ x, env.cells.lookup x = some b ∧ clB.contains x = false := fun b hb => by
    rcases List.mem_cons.mp hb with rfl | hb
    · exact .inl rfl
    · obtain ⟨x, hm, e⟩ := List.mem_filterMap.mp hb
      obtain ⟨_, hc⟩ := List.mem_filter.mp hm
      exact .inr ⟨x, e, by simpa using hc⟩
  have hdata : ∀ b ∈ hidOf env, ∀ o, s₁.heap.get? b = some o → (∃ es n, o.data = .dict es n) ∨ ∃ v, o.data = .cell v := fun b hb o e => by
    rcases hhid b hb with rfl | ⟨x, hm, _⟩
    · obtain ⟨m, o', es, ep, e', hd, _⟩ := W₁.ns
      rw [e'] at e; cases e
      exact .inl ⟨_, _, hd⟩
    · obtain ⟨v, o', e', hd⟩ := W₁.cells _ _ (mem_of_lookup hm)
      rw [e'] at e; cases e
      exact .inr ⟨_, hd⟩
  have hnew : ∀ b ∈ hidOf env, h₀.get? b = none := fun b hb => by
    rcases hhid b hb with rfl | ⟨x, hm, _⟩
    · exact hL
    · exact hC x b hm
  have hbnew : h₀.get? b = none := by
    rcases hb with rfl | hb
    · exact hL
    · exact hC _ _ hb
  -- the new base
  have k2 : Keep h₀ (hideAll s₁.heap (hidOf env)) := ⟨fun a o e => by
    obtain ⟨o', e', t'⟩ := kW.all a o e
    obtain ⟨o'', e'', t''⟩ := hst a o' (fun q => by rw [q, hbnew] at e; exact ns_ e) e'
    exact ⟨o'', hideAll_get _ e'' (fun hm => by rw [hnew a hm] at e; exact ns_ e), t'.trans t''⟩⟩
  have kid : Keep (hideAll s₁.heap (hidOf env)) s₁.heap := .of fun _ _ e => of_hideAll _ e
  have hcell : ∀ x c v, env.cells.lookup x = some c → clB.contains x = true → s₁.heap.IsCell c v → (hideAll s₁.heap (hidOf env)).IsCell c v := fun x c v hx hc ⟨o, e, hd⟩ => ⟨o, hideAll_get _ e (fun hm => by
    rcases hhid c hm with rfl | ⟨y, hy, hc'⟩
    · obtain ⟨m, o', es, ep, e', hd', _⟩ := W₁.ns
      rw [e'] at e; cases e; rw [hd'] at hd; cases hd
    · have : x = y := name_of_addr W₁.apart (mem_of_lookup hx) (mem_of_lookup hy)
      rw [this, hc'] at hc; exact ft_ hc), hd⟩
  have hnames : ∀ x k, (namesOf 17).lookup x = some k → env.kindOf x = some k := fun x k h => by unfold Env.kindOf; rw [hn]; exact h
  have hρ' : ∀ x d, (vN script).lookup x = some d → ((("tries" : Str), D.list (ms.map fun m => .val (.ref m.1))) :: ρ).lookup x = some d := fun x d hx => by
    rw [List.lookup_cons]
    cases hb' : x == ("tries" : Str) with
    | true =>
      have h0 : (vN script).lookup ("tries" : Str) = none := by with_unfolding_all rfl
      rw [beq_iff_eq.mp hb', h0] at hx; exact ns_ hx
    | false => exact hρ _ _ hx
  have hcis : ∀ x i, (namesOf 17).lookup x = some .cell → clB.contains x = true → (vN script).lookup x = some (.int i) → CellIs (hideAll s₁.heap (hidOf env)) env x (.int i) := fun x i h1 h2 h3 => by
    obtain ⟨ca, v, e1, e2, e3⟩ := cell_of W₁ (hnames x _ h1) (hρ' x _ h3)
    refine ⟨ca, v, e1, hcell x ca _ e1 h2 e2, ?_⟩
    obtain ⟨_, rfl⟩ := e3.inv; exact .int _ _
  have hXB : XB (env.qual ++ "<lambda>") env cl ms (dK script) (dF script).length (8 - (dE script).length) (hideAll s₁.heap (hidOf env)) := by
    refine ⟨hM.hide hdata, fun i hi x a hm => ?_, hcis "count" _ (by with_unfolding_all rfl) (by decide +kernel) (by with_unfolding_all rfl), hcis "first" _ (by with_unfolding_all rfl) (by decide +kernel) (by with_unfolding_all rfl), hcis "stop" _ (by with_unfolding_all rfl) (by decide +kernel) (by with_unfolding_all rfl)⟩
    have O := (hcl i hi).2
    obtain ⟨f1, f2⟩ := O.from' x a hm
    obtain ⟨v, hv⟩ := W₁.cells x a (mem_of_lookup f2)
    refine ⟨v, hcell x a v f2 ?_ hv⟩
    have h1 := List.all_eq_true.mp (lam_frees i hi) _ (mem_of_lookup f1)
    have h2 : (["count", "first", "stop"] : List Str).contains x = true := by simpa using h1
    simp only [List.contains_cons, List.contains_nil, Bool.or_false, Bool.or_eq_true, beq_iff_eq] at h2
    rcases h2 with rfl | rfl | rfl <;> decide +kernel
  have hS : Std P (hideAll s₁.heap (hidOf env)) := (R.std (ts := [86, 131]) (by decide)).keeps L k2
  have B : Base clB { s₁ with heap := hideAll s₁.heap (hidOf env) } env s₁ :=
    ⟨⟨kid, rfl, fun x => x⟩, hideAll_none _ (.head _), fun x c hx => by
      by_cases h : x ∈ clB
      · exact .inl h
      · refine .inr (hideAll_none _ (.tail _ (List.mem_filterMap.mpr ⟨x, List.mem_filter.mpr ⟨List.mem_map.mpr ⟨_, mem_of_lookup hx, rfl⟩, ?_⟩, hx⟩)))
        simpa using h⟩
  have fin := half_two (prog := prog) (w := w) (P := P) (L := L) (n := 3) (q := env.qual ++ "<lambda>") (env := env) (cl := cl) (ms := ms) (k := dK script) (f := (dF script).length) (s := 8 - (dE script).length) (s₂ := { s₁ with heap := hideAll s₁.heap (hidOf env) }) (A := A) (E := E) (script := script)
    ⟨hS, hXB⟩ (fun i hi => (hcl i hi).2) rfl hM.length ⟨a1, a2, a3, fun l e => by cases e; exact a4⟩ hn hfr W₁ B (fun x d hx => by
      rw [List.lookup_cons] at hx ⊢
      cases hb' : x == ("tries" : Str) with
      | true => rw [hb'] at hx; exact hx
      | false => rw [hb'] at hx; exact hρ _ _ hx)
  refine then_ fin fun f s'' q => ⟨q.1, k2.trans q.2.heap, q.2.os.trans hos, fun g => q.2.gens (hg g)⟩
end
section
open PySem PySem.W PyProof.Rows
set_option maxRecDepth 100000
theorem law_run {prog : Program} {w : World} {P : Params} {s : Shared} (R : Raw P s.heap) {v : Value} {X : List Addr} {script : List Int} {E : Value → Shared → Prop} (hX : Alive X s.heap) (r : Rep s.heap X v (LI script)) :
    wpAny (model prog w) callerA (call (.ref 134) [v]) (fun v s' => v = .bool true ∧ @Keep (loOf s.heap [86, 131]) s.heap s'.heap ∧ s'.os = s.os ∧ (AllBare s.gens → AllBare s'.gens)) E s := by
  letI : Lo := loOf s.heap [86]
  have L : Lays P := R.lays (by decide)
  have hS : Std P s.heap := R.std (by decide)
  have hbody : (fdIn (hd.heap_39 P) 134).body = .stmts (bodyOf 17) := by kernel_rfl
  have hnames : (fdIn (hd.heap_39 P) 134).scope.names = namesOf 17 := by kernel_rfl
  have hcode : (fdIn (hd.heap_39 P) 134).code = .ref 133 := by kernel_rfl
  have hA : OkA (theCfg prog w P L (fun _ => True) (fun _ _ _ _ => trivial) none) 7 callerA := ⟨rfl, by decide, by decide, fun l e => by cases e⟩
  refine IsDef.run (c := theCfg prog w P L (fun _ => True) (fun _ _ _ _ => trivial) none) (n := 6) (isDef (by kernel_rfl)) (args := ⟨[v], []⟩) hbody (ps := ["script"]) (bvs := [v]) (bds := [LI script]) (by rw [hnames]; exact psOk_at (i := 17) (by kernel_rfl)) rfl hA ⟨hS, trivial⟩ hX (BindsTo.of_eq (by kernel_rfl)) (.cons r .nil) fun env s₁ e1 W B hB e4 => ?_
  have hn : env.scope.names = namesOf 17 := by rw [e1]; exact hnames
  have hc : env.code = .ref 133 := by rw [e4]; exact hcode
  have hfr : env.frame = some env.locals := by rw [e4]; rfl
  have e17 : bodyOf 17 = bodyA ++ (bodyOf 17).drop 23 := (List.take_append_drop 23 _).symm
  rw [e17]
  refine execs_split (c := theCfg prog w P L (fun _ => True) (fun _ _ _ _ => trivial) none) _ _ _ ?_
  refine then_ (lawA (c := theCfg prog w P L (fun _ => True) (fun _ _ _ _ => trivial) none) (n := 6) (N := fun o ρ => o = none ∧ Sub (vN script) ρ) (R := fun _ => False) globs (theFns (n := 4)) script (fun ρ hρ => ⟨rfl, hρ⟩) (callerA.deeper env) env X X s s₁ _ hB hn (WfAt.of ⟨hS, trivial⟩) W B rfl) fun f s₂ a => ?_
  cases f with
  | next =>
    obtain ⟨o', ρ', X', ⟨rfl, hρ⟩, nx⟩ := a
    refine then_ (second_half (prog := prog) (w := w) R nx.base.kp.heap nx.ok hρ hn hc hfr nx.base.loc (fun x c hx => ?_) hB.handled hB.depth hB.units (Around.frames_deeper (A := callerA) (outer := []) rfl)) fun f s₃ q => ?_
    · rcases nx.base.cells x c hx with h | h
      · cases h
      · exact h
    · obtain ⟨rfl, q2, q3, q4⟩ := q
      exact ⟨rfl, q2, q3.trans nx.base.kp.os, fun g => q4 (nx.base.kp.gens g)⟩
  | ret v => obtain ⟨d, hd, _⟩ := a; exact hd.elim
  | brk => exact a.elim
  | cont => exact a.elim
end
section
open PySem PySem.W PyProof.Rows
set_option maxRecDepth 100000
theorem raw_of {P : Params} {h : Heap} {p : Program} {loose : List Str} {mean : ExcName → Option Value} {mg mb : Str → Option Value} (KX : (hd.heap_39 P).In h) (t86 : h.get? 86 = some (tabObj #[])) (t131 : h.get? 131 = some (tabObj #[])) (T : Top p loose mean mg mb h) : Raw P h where
  K := KX
  nl := T.nolimit
  bm := by obtain ⟨bm, ob, e⟩ := T.bmain; exact ⟨mg, bm, ob, T.g, e⟩
  bl := ⟨mb, T.b, T.builtins⟩
  mn := ⟨mg, T.g⟩
  ct := by
    refine @hd_elim (loOf h []) _ _ _ _ (codeHd_of_K (c := 90) (P := 86) KX (by kernel_rfl)) fun o vs file tf flags tg inF text tt e hc hd' r => ?_
    obtain ⟨h11, g11, g18, g7, g9, g10, hne⟩ := r
    exact ⟨#[], ⟨o, vs, file, tf, flags, tg, inF, text, tt, _, e, hd', g11, g18, g7, g9, g10, t86, rfl, trivial, hne⟩, ⟨o, vs, e, hc, hd', h11⟩, t86⟩
  t131 := t131
  hd131 := codeHd_of_K KX (by kernel_rfl)
theorem tab86 {P : Params} {h : Heap} {mean : ExcName → Option Value} {loose : List Str} {mg mb : Str → Option Value} (KX : (hd.heap_39 P).In h) (T : Top hd.view_39 loose mean mg mb h) : h.get? 86 = some (tabObj #[]) := by
  have hany : ((recsOf hd.view_39).any fun d => d.name == ("covariance" : Str)) = true := by kernel_rfl
  obtain ⟨d, hdm, hn⟩ := List.any_eq_true.mp hany
  obtain ⟨a, o, fd, c, Q, h1, h2, h3, h4, h5, h6⟩ := T.tab d hdm
  rw [beq_iff_eq.mp hn, mg_of (n := "covariance") KX T.g (v := .ref 91) (by kernel_rfl)] at h1
  cases h1
  obtain ⟨o', e1, e2, _⟩ := @defOk_at (loOf h []) (hd.heap_39 P) 91 (by kernel_rfl)
  have e3 := KX _ _ e1
  rw [h2] at e3
  cases e3
  rw [h3] at e2
  have e4 : fd = fdIn (hd.heap_39 P) 91 := by injection e2
  have e5 : (fdIn (hd.heap_39 P) 91).code = .ref 90 := by kernel_rfl
  rw [e4, e5] at h4
  cases h4
  refine @hd_elim (loOf h []) _ _ _ _ (codeHd_of_K (c := 90) (P := 86) KX (by kernel_rfl)) fun o2 vs file tf flags tg inF text tt e hc hd' r => ?_
  obtain ⟨⟨o3, vs3, f1, f2, f3, f4⟩, f5⟩ := h6
  rw [← Option.some.inj (e.symm.trans f1), hd'] at f3
  injection f3 with f3
  rw [← f3, r.1] at f4
  have f4 := Option.some.inj f4
  injection f4 with f4
  rw [f4]; exact f5
theorem oldK_of {P : Params} {h h' : Heap} (R : Raw P h) (k : @Keep (loOf h [86, 131]) h h') : OldK h h' := by
  have tab : ∀ b, b ∈ [86, 131] → isCodeTable h b := fun b hb => by
    rcases List.mem_cons.mp hb with rfl | hb
    · obtain ⟨ps, _, t⟩ := R.ct
      exact t.isCodeTable
    · rw [List.mem_singleton.mp hb]
      exact @hd_elim (loOf h []) _ _ _ _ R.hd131 fun o vs file tf flags tg inF text tt e hc hd' r => ⟨133, o, vs, e, hc, hd', r.1⟩
  refine ⟨fun b o e => ?_, fun b o e => ?_⟩
  · obtain ⟨o', e', t⟩ := @Keep.all (loOf h [86, 131]) _ _ k b o e
    cases t with
    | same => exact .inl e'
    | table hb ht => exact .inr (.inl ⟨tab b hb, rfl, _, _, rfl, e'⟩)
    | frame sl h1 h2 =>
      have h2 : (h.get? b).isSome = false := h2
      rw [e] at h2; cases h2
  · obtain ⟨o', e', _⟩ := @Keep.all (loOf h [86, 131]) _ _ k b o e
    exact ⟨o', e'⟩
theorem ints_rep {h : Heap} {X : List Addr} {a : Addr} {vs : List Value} {ns : List Int} {n : Nat} (e : h.get? a = some { cls := .type "list", data := .seq vs.toArray n }) (hI : IntsAre vs ns) (hl : ns.length ≤ 63) (ha : a ∉ X) : Rep h X (.ref a) (LI ns) :=
  .list ha ⟨n, e⟩ (by rw [List.length_map]; simp only [lim]; exact z518 hl) (@Reps.ofInts (loOf h []) _ _ _ _ hI)
end
end
end Mine
open PySem PySem.W PyProof.Rows
set_option maxHeartbeats 4000000 in
theorem PySem.Challenge.cw_rw0059_01_holds : PySem.Challenge.rw_rw0059_01.Holds := by
  refine Mine.hd ?_
  intro w s₀ s₁ mg mb G Y fa o pm cd doc dV kV ho hd' hcd hD hmg hg args vals as hpre hlay hrd hwl hlo
  have KX := km_in_of Y
  have KT := km_tabs_of Y
  have R := Mine.raw_of KX (Mine.tab86 KX (Ground.T G)) (KT 131 (by decide)) (Ground.T G)
  have hfa : fa = 134 := by
    have h1 := mg_of (n := "law") KX (Ground.T G).g (v := .ref 134) (by kernel_rfl)
    have h2 : mg "law" = some (.ref fa) := hmg
    rw [h1] at h2
    cases h2; rfl
  subst hfa
  clear hmg hD hcd hd' ho
  wrow_args hpre hlay hrd hwl hlo
  rename_i ns _ _ _ _ _ _ _ a vs _ hL _ hW _ hI _ hc _
  have hlist : s₁.heap.get? a = some { cls := .type "list", data := .seq vs.toArray } := by
    obtain ⟨o, e, hcl, n, hdd⟩ := hL
    cases hW with
    | list e' _ => rw [e] at e'; cases e'; cases hdd; exact e
  have hr := Mine.ints_rep (X := []) hlist hI (by omega) (by simp)
  refine wpAny_mono (Mine.law_run (prog := PySem.Challenge.pw_rw0059_01) (w := w) (E := fun _ _ => False) R (X := []) (by intro b hb; cases hb) hr) (fun v s' q => ?_) fun _ _ q => q.elim
  obtain ⟨rfl, q1, q2, q3⟩ := q
  refine ⟨.inl ⟨.bool true, .bool true, [], rfl, fun _ => rfl, .bool true, by kernel_rfl, fun _ => ⟨.nil, fun _ h => by cases h⟩⟩, Mine.oldK_of R q1, q2, q3 ?_⟩
  rw [hg]
  intro g hg'
  simp at hg'
