/- SetBytes and Bytes of elements: what they reckon. No condition. -/
import Derived.Test.YtpaidbefbkokfaaDoorWid
import Derived.Test.YtpaidbefbkokfaaDoorSb
namespace Go.Proofs.YtpaidbefbkokfaaDoor
open Go Go.RowKit Go.Lib
set_option linter.unusedVariables false
set_option linter.unusedSimpArgs false
set_option maxRecDepth 100000

def elOf_ms : Ms := ⟨[⟨[.int .u64 (.x 23), .int .u64 (.x 48), .int .u64 (.x 73), .int .u64 (.x 98), .int .u64 (.x 123)], true⟩, ⟨[.int .u8 (.o 0 0), .int .u8 (.o 0 1), .int .u8 (.o 0 2), .int .u8 (.o 0 3), .int .u8 (.o 0 4), .int .u8 (.o 0 5), .int .u8 (.o 0 6), .int .u8 (.o 0 7), .int .u8 (.o 0 8), .int .u8 (.o 0 9), .int .u8 (.o 0 10), .int .u8 (.o 0 11), .int .u8 (.o 0 12), .int .u8 (.o 0 13), .int .u8 (.o 0 14), .int .u8 (.o 0 15), .int .u8 (.o 0 16), .int .u8 (.o 0 17), .int .u8 (.o 0 18), .int .u8 (.o 0 19), .int .u8 (.o 0 20), .int .u8 (.o 0 21), .int .u8 (.o 0 22), .int .u8 (.o 0 23), .int .u8 (.o 0 24), .int .u8 (.o 0 25), .int .u8 (.o 0 26), .int .u8 (.o 0 27), .int .u8 (.o 0 28), .int .u8 (.o 0 29), .int .u8 (.o 0 30), .int .u8 (.o 0 31)], false⟩], [.di 123 (.and (.u64)) [.x 122, .c 2251799813685247], .di 122 (.shr (.u64)) [.x 121, .c 12], .di 121 (.or (.u64)) [.x 119, .x 120], .di 120 (.conv (.u64)) [.o 0 24], .di 119 (.shl (.u64)) [.x 118, .c 8], .di 118 (.or (.u64)) [.x 116, .x 117], .di 117 (.conv (.u64)) [.o 0 25], .di 116 (.shl (.u64)) [.x 115, .c 8], .di 115 (.or (.u64)) [.x 113, .x 114], .di 114 (.conv (.u64)) [.o 0 26], .di 113 (.shl (.u64)) [.x 112, .c 8], .di 112 (.or (.u64)) [.x 110, .x 111], .di 111 (.conv (.u64)) [.o 0 27], .di 110 (.shl (.u64)) [.x 109, .c 8], .di 109 (.or (.u64)) [.x 107, .x 108], .di 108 (.conv (.u64)) [.o 0 28], .di 107 (.shl (.u64)) [.x 106, .c 8], .di 106 (.or (.u64)) [.x 104, .x 105], .di 105 (.conv (.u64)) [.o 0 29], .di 104 (.shl (.u64)) [.x 103, .c 8], .di 103 (.or (.u64)) [.x 101, .x 102], .di 102 (.conv (.u64)) [.o 0 30], .di 101 (.shl (.u64)) [.x 100, .c 8], .di 100 (.or (.u64)) [.c 0, .x 99], .di 99 (.conv (.u64)) [.o 0 31], .di 98 (.and (.u64)) [.x 97, .c 2251799813685247], .di 97 (.shr (.u64)) [.x 96, .c 1], .di 96 (.or (.u64)) [.x 94, .x 95], .di 95 (.conv (.u64)) [.o 0 19], .di 94 (.shl (.u64)) [.x 93, .c 8], .di 93 (.or (.u64)) [.x 91, .x 92], .di 92 (.conv (.u64)) [.o 0 20], .di 91 (.shl (.u64)) [.x 90, .c 8], .di 90 (.or (.u64)) [.x 88, .x 89], .di 89 (.conv (.u64)) [.o 0 21], .di 88 (.shl (.u64)) [.x 87, .c 8], .di 87 (.or (.u64)) [.x 85, .x 86], .di 86 (.conv (.u64)) [.o 0 22], .di 85 (.shl (.u64)) [.x 84, .c 8], .di 84 (.or (.u64)) [.x 82, .x 83], .di 83 (.conv (.u64)) [.o 0 23], .di 82 (.shl (.u64)) [.x 81, .c 8], .di 81 (.or (.u64)) [.x 79, .x 80], .di 80 (.conv (.u64)) [.o 0 24], .di 79 (.shl (.u64)) [.x 78, .c 8], .di 78 (.or (.u64)) [.x 76, .x 77], .di 77 (.conv (.u64)) [.o 0 25], .di 76 (.shl (.u64)) [.x 75, .c 8], .di 75 (.or (.u64)) [.c 0, .x 74], .di 74 (.conv (.u64)) [.o 0 26], .di 73 (.and (.u64)) [.x 72, .c 2251799813685247], .di 72 (.shr (.u64)) [.x 71, .c 6], .di 71 (.or (.u64)) [.x 69, .x 70], .di 70 (.conv (.u64)) [.o 0 12], .di 69 (.shl (.u64)) [.x 68, .c 8], .di 68 (.or (.u64)) [.x 66, .x 67], .di 67 (.conv (.u64)) [.o 0 13], .di 66 (.shl (.u64)) [.x 65, .c 8], .di 65 (.or (.u64)) [.x 63, .x 64], .di 64 (.conv (.u64)) [.o 0 14], .di 63 (.shl (.u64)) [.x 62, .c 8], .di 62 (.or (.u64)) [.x 60, .x 61], .di 61 (.conv (.u64)) [.o 0 15], .di 60 (.shl (.u64)) [.x 59, .c 8], .di 59 (.or (.u64)) [.x 57, .x 58], .di 58 (.conv (.u64)) [.o 0 16], .di 57 (.shl (.u64)) [.x 56, .c 8], .di 56 (.or (.u64)) [.x 54, .x 55], .di 55 (.conv (.u64)) [.o 0 17], .di 54 (.shl (.u64)) [.x 53, .c 8], .di 53 (.or (.u64)) [.x 51, .x 52], .di 52 (.conv (.u64)) [.o 0 18], .di 51 (.shl (.u64)) [.x 50, .c 8], .di 50 (.or (.u64)) [.c 0, .x 49], .di 49 (.conv (.u64)) [.o 0 19], .di 48 (.and (.u64)) [.x 47, .c 2251799813685247], .di 47 (.shr (.u64)) [.x 46, .c 3], .di 46 (.or (.u64)) [.x 44, .x 45], .di 45 (.conv (.u64)) [.o 0 6], .di 44 (.shl (.u64)) [.x 43, .c 8], .di 43 (.or (.u64)) [.x 41, .x 42], .di 42 (.conv (.u64)) [.o 0 7], .di 41 (.shl (.u64)) [.x 40, .c 8], .di 40 (.or (.u64)) [.x 38, .x 39], .di 39 (.conv (.u64)) [.o 0 8], .di 38 (.shl (.u64)) [.x 37, .c 8], .di 37 (.or (.u64)) [.x 35, .x 36], .di 36 (.conv (.u64)) [.o 0 9], .di 35 (.shl (.u64)) [.x 34, .c 8], .di 34 (.or (.u64)) [.x 32, .x 33], .di 33 (.conv (.u64)) [.o 0 10], .di 32 (.shl (.u64)) [.x 31, .c 8], .di 31 (.or (.u64)) [.x 29, .x 30], .di 30 (.conv (.u64)) [.o 0 11], .di 29 (.shl (.u64)) [.x 28, .c 8], .di 28 (.or (.u64)) [.x 26, .x 27], .di 27 (.conv (.u64)) [.o 0 12], .di 26 (.shl (.u64)) [.x 25, .c 8], .di 25 (.or (.u64)) [.c 0, .x 24], .di 24 (.conv (.u64)) [.o 0 13], .di 23 (.and (.u64)) [.x 22, .c 2251799813685247], .di 22 (.or (.u64)) [.x 20, .x 21], .di 21 (.conv (.u64)) [.o 0 0], .di 20 (.shl (.u64)) [.x 19, .c 8], .di 19 (.or (.u64)) [.x 17, .x 18], .di 18 (.conv (.u64)) [.o 0 1], .di 17 (.shl (.u64)) [.x 16, .c 8], .di 16 (.or (.u64)) [.x 14, .x 15], .di 15 (.conv (.u64)) [.o 0 2], .di 14 (.shl (.u64)) [.x 13, .c 8], .di 13 (.or (.u64)) [.x 11, .x 12], .di 12 (.conv (.u64)) [.o 0 3], .di 11 (.shl (.u64)) [.x 10, .c 8], .di 10 (.or (.u64)) [.x 8, .x 9], .di 9 (.conv (.u64)) [.o 0 4], .di 8 (.shl (.u64)) [.x 7, .c 8], .di 7 (.or (.u64)) [.x 5, .x 6], .di 6 (.conv (.u64)) [.o 0 5], .di 5 (.shl (.u64)) [.x 4, .c 8], .di 4 (.or (.u64)) [.x 2, .x 3], .di 3 (.conv (.u64)) [.o 0 6], .di 2 (.shl (.u64)) [.x 1, .c 8], .di 1 (.or (.u64)) [.c 0, .x 0], .di 0 (.conv (.u64)) [.o 0 7]], 124, 0, 0, 1, [], []⟩
theorem elOf_run : runOk (body tabW 2 11) (⟨[⟨anys 5, true⟩, ⟨octsS 0 0 32, false⟩], [], 0, 0, 0, 1, [], []⟩) ([.ptr 0 0, .slice 1 0 32 32]) (.tuple [.ptr 0 0, .nili]) elOf_ms := ⟨by kernel_rfl, by kernel_rfl, by kernel_rfl, by kernel_rfl⟩
def elBy_ms : Ms := ⟨[⟨[.int .u64 (.l 0 0), .int .u64 (.l 0 1), .int .u64 (.l 0 2), .int .u64 (.l 0 3), .int .u64 (.l 0 4)], false⟩, ⟨[.int .u8 (.x 53), .int .u8 (.x 55), .int .u8 (.x 57), .int .u8 (.x 59), .int .u8 (.x 61), .int .u8 (.x 63), .int .u8 (.x 65), .int .u8 (.x 67), .int .u8 (.x 69), .int .u8 (.x 71), .int .u8 (.x 73), .int .u8 (.x 75), .int .u8 (.x 77), .int .u8 (.x 79), .int .u8 (.x 81), .int .u8 (.x 83), .int .u8 (.x 85), .int .u8 (.x 87), .int .u8 (.x 89), .int .u8 (.x 91), .int .u8 (.x 93), .int .u8 (.x 95), .int .u8 (.x 97), .int .u8 (.x 99), .int .u8 (.x 101), .int .u8 (.x 103), .int .u8 (.x 105), .int .u8 (.x 107), .int .u8 (.x 109), .int .u8 (.x 111), .int .u8 (.x 113), .int .u8 (.x 115)], true⟩, ⟨[.int .u64 (.x 30), .int .u64 (.x 33), .int .u64 (.x 36), .int .u64 (.x 39), .int .u64 (.x 40)], true⟩], [.di 115 (.conv (.u8)) [.x 114], .di 114 (.shr (.u64)) [.x 51, .c 56], .di 113 (.conv (.u8)) [.x 112], .di 112 (.shr (.u64)) [.x 51, .c 48], .di 111 (.conv (.u8)) [.x 110], .di 110 (.shr (.u64)) [.x 51, .c 40], .di 109 (.conv (.u8)) [.x 108], .di 108 (.shr (.u64)) [.x 51, .c 32], .di 107 (.conv (.u8)) [.x 106], .di 106 (.shr (.u64)) [.x 51, .c 24], .di 105 (.conv (.u8)) [.x 104], .di 104 (.shr (.u64)) [.x 51, .c 16], .di 103 (.conv (.u8)) [.x 102], .di 102 (.shr (.u64)) [.x 51, .c 8], .di 101 (.conv (.u8)) [.x 100], .di 100 (.shr (.u64)) [.x 51, .c 0], .di 99 (.conv (.u8)) [.x 98], .di 98 (.shr (.u64)) [.x 48, .c 56], .di 97 (.conv (.u8)) [.x 96], .di 96 (.shr (.u64)) [.x 48, .c 48], .di 95 (.conv (.u8)) [.x 94], .di 94 (.shr (.u64)) [.x 48, .c 40], .di 93 (.conv (.u8)) [.x 92], .di 92 (.shr (.u64)) [.x 48, .c 32], .di 91 (.conv (.u8)) [.x 90], .di 90 (.shr (.u64)) [.x 48, .c 24], .di 89 (.conv (.u8)) [.x 88], .di 88 (.shr (.u64)) [.x 48, .c 16], .di 87 (.conv (.u8)) [.x 86], .di 86 (.shr (.u64)) [.x 48, .c 8], .di 85 (.conv (.u8)) [.x 84], .di 84 (.shr (.u64)) [.x 48, .c 0], .di 83 (.conv (.u8)) [.x 82], .di 82 (.shr (.u64)) [.x 45, .c 56], .di 81 (.conv (.u8)) [.x 80], .di 80 (.shr (.u64)) [.x 45, .c 48], .di 79 (.conv (.u8)) [.x 78], .di 78 (.shr (.u64)) [.x 45, .c 40], .di 77 (.conv (.u8)) [.x 76], .di 76 (.shr (.u64)) [.x 45, .c 32], .di 75 (.conv (.u8)) [.x 74], .di 74 (.shr (.u64)) [.x 45, .c 24], .di 73 (.conv (.u8)) [.x 72], .di 72 (.shr (.u64)) [.x 45, .c 16], .di 71 (.conv (.u8)) [.x 70], .di 70 (.shr (.u64)) [.x 45, .c 8], .di 69 (.conv (.u8)) [.x 68], .di 68 (.shr (.u64)) [.x 45, .c 0], .di 67 (.conv (.u8)) [.x 66], .di 66 (.shr (.u64)) [.x 42, .c 56], .di 65 (.conv (.u8)) [.x 64], .di 64 (.shr (.u64)) [.x 42, .c 48], .di 63 (.conv (.u8)) [.x 62], .di 62 (.shr (.u64)) [.x 42, .c 40], .di 61 (.conv (.u8)) [.x 60], .di 60 (.shr (.u64)) [.x 42, .c 32], .di 59 (.conv (.u8)) [.x 58], .di 58 (.shr (.u64)) [.x 42, .c 24], .di 57 (.conv (.u8)) [.x 56], .di 56 (.shr (.u64)) [.x 42, .c 16], .di 55 (.conv (.u8)) [.x 54], .di 54 (.shr (.u64)) [.x 42, .c 8], .di 53 (.conv (.u8)) [.x 52], .di 52 (.shr (.u64)) [.x 42, .c 0], .di 51 (.or (.u64)) [.x 49, .x 50], .di 50 (.shr (.u64)) [.x 39, .c 39], .di 49 (.shl (.u64)) [.x 40, .c 12], .di 48 (.or (.u64)) [.x 46, .x 47], .di 47 (.shr (.u64)) [.x 36, .c 26], .di 46 (.shl (.u64)) [.x 39, .c 25], .di 45 (.or (.u64)) [.x 43, .x 44], .di 44 (.shr (.u64)) [.x 33, .c 13], .di 43 (.shl (.u64)) [.x 36, .c 38], .di 42 (.or (.u64)) [.x 41, .x 30], .di 41 (.shl (.u64)) [.x 33, .c 51], .di 40 (.and (.u64)) [.x 38, .c 2251799813685247], .di 39 (.and (.u64)) [.x 35, .c 2251799813685247], .di 38 (.add (.u64)) [.x 6, .x 37], .di 37 (.shr (.u64)) [.x 35, .c 51], .di 36 (.and (.u64)) [.x 32, .c 2251799813685247], .di 35 (.add (.u64)) [.x 9, .x 34], .di 34 (.shr (.u64)) [.x 32, .c 51], .di 33 (.and (.u64)) [.x 29, .c 2251799813685247], .di 32 (.add (.u64)) [.x 12, .x 31], .di 31 (.shr (.u64)) [.x 29, .c 51], .di 30 (.and (.u64)) [.x 27, .c 2251799813685247], .di 29 (.add (.u64)) [.x 15, .x 28], .di 28 (.shr (.u64)) [.x 27, .c 51], .di 27 (.add (.u64)) [.x 3, .x 26], .di 26 (.mul (.u64)) [.c 19, .x 25], .di 25 (.shr (.u64)) [.x 24, .c 51], .di 24 (.add (.u64)) [.x 6, .x 23], .di 23 (.shr (.u64)) [.x 22, .c 51], .di 22 (.add (.u64)) [.x 9, .x 21], .di 21 (.shr (.u64)) [.x 20, .c 51], .di 20 (.add (.u64)) [.x 12, .x 19], .di 19 (.shr (.u64)) [.x 18, .c 51], .di 18 (.add (.u64)) [.x 15, .x 17], .di 17 (.shr (.u64)) [.x 16, .c 51], .di 16 (.add (.u64)) [.x 3, .c 19], .di 15 (.add (.u64)) [.x 13, .x 14], .di 14 (.shr (.u64)) [.l 0 0, .c 51], .di 13 (.and (.u64)) [.l 0 1, .c 2251799813685247], .di 12 (.add (.u64)) [.x 10, .x 11], .di 11 (.shr (.u64)) [.l 0 1, .c 51], .di 10 (.and (.u64)) [.l 0 2, .c 2251799813685247], .di 9 (.add (.u64)) [.x 7, .x 8], .di 8 (.shr (.u64)) [.l 0 2, .c 51], .di 7 (.and (.u64)) [.l 0 3, .c 2251799813685247], .di 6 (.add (.u64)) [.x 4, .x 5], .di 5 (.shr (.u64)) [.l 0 3, .c 51], .di 4 (.and (.u64)) [.l 0 4, .c 2251799813685247], .di 3 (.add (.u64)) [.x 0, .x 2], .di 2 (.m19) [.x 1], .di 1 (.shr (.u64)) [.l 0 4, .c 51], .di 0 (.and (.u64)) [.l 0 0, .c 2251799813685247]], 116, 0, 1, 0, [], []⟩
theorem elBy_run : runOk (body tabW 4 28) (⟨[⟨limbs 0, false⟩], [], 0, 0, 1, 0, [], []⟩) ([.ptr 0 0]) (.slice 1 0 32 32) elBy_ms := ⟨by kernel_rfl, by kernel_rfl, by kernel_rfl, by kernel_rfl⟩

theorem or8 {x b s c y X : Int} (hs : s = x * 256 % 18446744073709551616) (hc : c = b % 18446744073709551616) (hy : y = (((s % 18446744073709551616).toNat ||| (c % 18446744073709551616).toNat : Nat) : Int) % 18446744073709551616)
    (hx : 0 ≤ x ∧ x < X) (hX : X ≤ 72057594037927936) (hb : 0 ≤ b ∧ b < 256) : y = x * 256 + b ∧ (0 ≤ y ∧ y < X * 256) := by
  have e1 : (s % 18446744073709551616).toNat = 2 ^ 8 * x.toNat := by omega
  have e2 : (c % 18446744073709551616).toNat = b.toNat := by omega
  rw [e1, e2, ← Nat.two_pow_add_eq_or_of_lt (by omega) _] at hy
  omega
theorem or0 {b c y : Int} (hc : c = b % 18446744073709551616) (hy : y = ((((0 : Int) % 18446744073709551616).toNat ||| (c % 18446744073709551616).toNat : Nat) : Int) % 18446744073709551616) (b0 : 0 ≤ b) (b1 : b < 256) : y = b := by
  have e1 : ((0 : Int) % 18446744073709551616).toNat = 0 := by decide
  rw [e1, Nat.zero_or] at hy
  omega
theorem oct8 (m : Nat) : m % 256 + 256 * (m / 256 % 256) + 65536 * (m / 65536 % 256) + 16777216 * (m / 16777216 % 256) + 4294967296 * (m / 4294967296 % 256) + 1099511627776 * (m / 1099511627776 % 256) + 281474976710656 * (m / 281474976710656 % 256) + 72057594037927936 * (m / 72057594037927936 % 256) = m % 18446744073709551616 := by omega
/-- Eight bytes of a number. -/
theorem le8 (n o : Nat) : ((((((((octet n (o + 7) : Nat) : Int) * 256 + (octet n (o + 6) : Nat)) * 256 + (octet n (o + 5) : Nat)) * 256 + (octet n (o + 4) : Nat)) * 256 + (octet n (o + 3) : Nat)) * 256 + (octet n (o + 2) : Nat)) * 256 + (octet n (o + 1) : Nat)) * 256 + (octet n o : Nat) = ((n / 256 ^ o % 18446744073709551616 : Nat) : Int) := by
  have h := oct8 (n / 256 ^ o)
  have k : ∀ i, octet n (o + i) = n / 256 ^ o / 256 ^ i % 256 := fun i => by rw [octet, Nat.pow_add, Nat.div_div_eq_div_mul]
  have k0 : octet n o = n / 256 ^ o % 256 := rfl
  rw [k 7, k 6, k 5, k 4, k 3, k 2, k 1, k0]
  simp only [Nat.reducePow]
  generalize n / 256 ^ o = m at *
  omega
theorem lim0 {x y : Int} {m : Nat} (hv : x = ((m % 18446744073709551616 : Nat) : Int)) (hy : y = (((x % 18446744073709551616).toNat &&& ((2251799813685247 : Int) % 18446744073709551616).toNat : Nat) : Int) % 18446744073709551616) : y = (m : Int) % 2251799813685248 := by
  rw [and51 _ (by rw [hv]; omega)] at hy; omega
theorem lim1 {x z y : Int} {m : Nat} (hv : x = ((m % 18446744073709551616 : Nat) : Int)) (hz : z = x / 2) (hy : y = (((z % 18446744073709551616).toNat &&& ((2251799813685247 : Int) % 18446744073709551616).toNat : Nat) : Int) % 18446744073709551616) : y = (m : Int) / 2 % 2251799813685248 := by
  rw [and51 _ (by rw [hz, hv]; omega)] at hy; omega
theorem lim3 {x z y : Int} {m : Nat} (hv : x = ((m % 18446744073709551616 : Nat) : Int)) (hz : z = x / 8) (hy : y = (((z % 18446744073709551616).toNat &&& ((2251799813685247 : Int) % 18446744073709551616).toNat : Nat) : Int) % 18446744073709551616) : y = (m : Int) / 8 % 2251799813685248 := by
  rw [and51 _ (by rw [hz, hv]; omega)] at hy; omega
theorem lim6 {x z y : Int} {m : Nat} (hv : x = ((m % 18446744073709551616 : Nat) : Int)) (hz : z = x / 64) (hy : y = (((z % 18446744073709551616).toNat &&& ((2251799813685247 : Int) % 18446744073709551616).toNat : Nat) : Int) % 18446744073709551616) : y = (m : Int) / 64 % 2251799813685248 := by
  rw [and51 _ (by rw [hz, hv]; omega)] at hy; omega
theorem lim12 {x z y : Int} {m : Nat} (hv : x = ((m % 18446744073709551616 : Nat) : Int)) (hz : z = x / 4096) (hy : y = (((z % 18446744073709551616).toNat &&& ((2251799813685247 : Int) % 18446744073709551616).toNat : Nat) : Int) % 18446744073709551616) : y = (m : Int) / 4096 % 2251799813685248 := by
  rw [and51 _ (by rw [hz, hv]; omega)] at hy; omega
theorem elOf_fin (m : Nat) : [((m / 256 ^ 0 : Nat) : Int) % 2251799813685248, ((m / 256 ^ 6 : Nat) : Int) / 8 % 2251799813685248, ((m / 256 ^ 12 : Nat) : Int) / 64 % 2251799813685248, ((m / 256 ^ 19 : Nat) : Int) / 2 % 2251799813685248, ((m / 256 ^ 24 : Nat) : Int) / 4096 % 2251799813685248] = [(sbE m).1.at 0, (sbE m).1.at 1, (sbE m).1.at 2, (sbE m).1.at 3, (sbE m).1.at 4] := by
  have e0 : ((m / 256 ^ 0 : Nat) : Int) % 2251799813685248 = (m : Int) % 2251799813685248 := by simp only [Nat.reducePow]; omega
  have e1 : ((m / 256 ^ 6 : Nat) : Int) / 8 % 2251799813685248 = (m : Int) / 2251799813685248 % 2251799813685248 := by simp only [Nat.reducePow]; omega
  have e2 : ((m / 256 ^ 12 : Nat) : Int) / 64 % 2251799813685248 = (m : Int) / 5070602400912917605986812821504 % 2251799813685248 := by simp only [Nat.reducePow]; omega
  have e3 : ((m / 256 ^ 19 : Nat) : Int) / 2 % 2251799813685248 = (m : Int) / 11417981541647679048466287755595961091061972992 % 2251799813685248 := by simp only [Nat.reducePow]; omega
  have e4 : ((m / 256 ^ 24 : Nat) : Int) / 4096 % 2251799813685248 = (m : Int) / 25711008708143844408671393477458601640355247900524685364822016 % 2251799813685248 := by simp only [Nat.reducePow]; omega
  rw [e0, e1, e2, e3, e4]
  rfl
set_option maxHeartbeats 4000000 in
theorem elOf_math (ρ : Env) (hd : Defs ρ elOf_ms.tr) : Asms ρ elOf_ms.tr ∧ [ρ.i 23, ρ.i 48, ρ.i 73, ρ.i 98, ρ.i 123] = [(sbE (ρ.n 0)).1.at 0, (sbE (ρ.n 0)).1.at 1, (sbE (ρ.n 0)).1.at 2, (sbE (ρ.n 0)).1.at 3, (sbE (ρ.n 0)).1.at 4] := by
  refine ⟨by simp only [elOf_ms, Asms, Ent.asn, and_true], ?_⟩
  simp only [elOf_ms, Defs, Ent.def, Fi.sem, List.map_cons, List.map_nil, Sx.val, E5.at, wr, nbits, ub, ubN, Int.reduceToNat, Nat.min_def, Nat.reduceLeDiff, ↓reduceIte, Int.reducePow, and_true] at hd
  obtain ⟨d123, d122, d121, d120, d119, d118, d117, d116, d115, d114, d113, d112, d111, d110, d109, d108, d107, d106, d105, d104, d103, d102, d101, d100, d99, d98, d97, d96, d95, d94, d93, d92, d91, d90, d89, d88, d87, d86, d85, d84, d83, d82, d81, d80, d79, d78, d77, d76, d75, d74, d73, d72, d71, d70, d69, d68, d67, d66, d65, d64, d63, d62, d61, d60, d59, d58, d57, d56, d55, d54, d53, d52, d51, d50, d49, d48, d47, d46, d45, d44, d43, d42, d41, d40, d39, d38, d37, d36, d35, d34, d33, d32, d31, d30, d29, d28, d27, d26, d25, d24, d23, d22, d21, d20, d19, d18, d17, d16, d15, d14, d13, d12, d11, d10, d9, d8, d7, d6, d5, d4, d3, d2, d1, d0⟩ := hd
  have hb : ∀ j, (0 : Int) ≤ ((octet (ρ.n 0) j : Nat) : Int) ∧ ((octet (ρ.n 0) j : Nat) : Int) < 256 := fun j => by have := octet_lt (ρ.n 0) j; omega
  have w07 : ρ.i 1 = ((octet (ρ.n 0) 7 : Nat) : Int) := or0 d0 d1 (hb 7).1 (hb 7).2
  have b07 : 0 ≤ ρ.i 1 ∧ ρ.i 1 < 256 := by rw [w07]; exact hb 7
  obtain ⟨w06, b06⟩ := or8 d2 d3 d4 b07 (by decide) (hb 6)
  obtain ⟨w05, b05⟩ := or8 d5 d6 d7 b06 (by decide) (hb 5)
  obtain ⟨w04, b04⟩ := or8 d8 d9 d10 b05 (by decide) (hb 4)
  obtain ⟨w03, b03⟩ := or8 d11 d12 d13 b04 (by decide) (hb 3)
  obtain ⟨w02, b02⟩ := or8 d14 d15 d16 b03 (by decide) (hb 2)
  obtain ⟨w01, b01⟩ := or8 d17 d18 d19 b02 (by decide) (hb 1)
  obtain ⟨w00, b00⟩ := or8 d20 d21 d22 b01 (by decide) (hb 0)
  have v0 : ρ.i 22 = ((ρ.n 0 / 256 ^ 0 % 18446744073709551616 : Nat) : Int) := by rw [w00, w01, w02, w03, w04, w05, w06, w07]; exact le8 (ρ.n 0) 0
  have z0 : ρ.i 23 = ((ρ.n 0 / 256 ^ 0 : Nat) : Int) % 2251799813685248 := lim0 v0 d23
  have w17 : ρ.i 25 = ((octet (ρ.n 0) 13 : Nat) : Int) := or0 d24 d25 (hb 13).1 (hb 13).2
  have b17 : 0 ≤ ρ.i 25 ∧ ρ.i 25 < 256 := by rw [w17]; exact hb 13
  obtain ⟨w16, b16⟩ := or8 d26 d27 d28 b17 (by decide) (hb 12)
  obtain ⟨w15, b15⟩ := or8 d29 d30 d31 b16 (by decide) (hb 11)
  obtain ⟨w14, b14⟩ := or8 d32 d33 d34 b15 (by decide) (hb 10)
  obtain ⟨w13, b13⟩ := or8 d35 d36 d37 b14 (by decide) (hb 9)
  obtain ⟨w12, b12⟩ := or8 d38 d39 d40 b13 (by decide) (hb 8)
  obtain ⟨w11, b11⟩ := or8 d41 d42 d43 b12 (by decide) (hb 7)
  obtain ⟨w10, b10⟩ := or8 d44 d45 d46 b11 (by decide) (hb 6)
  have v1 : ρ.i 46 = ((ρ.n 0 / 256 ^ 6 % 18446744073709551616 : Nat) : Int) := by rw [w10, w11, w12, w13, w14, w15, w16, w17]; exact le8 (ρ.n 0) 6
  have z1 : ρ.i 48 = ((ρ.n 0 / 256 ^ 6 : Nat) : Int) / 8 % 2251799813685248 := lim3 v1 d47 d48
  have w27 : ρ.i 50 = ((octet (ρ.n 0) 19 : Nat) : Int) := or0 d49 d50 (hb 19).1 (hb 19).2
  have b27 : 0 ≤ ρ.i 50 ∧ ρ.i 50 < 256 := by rw [w27]; exact hb 19
  obtain ⟨w26, b26⟩ := or8 d51 d52 d53 b27 (by decide) (hb 18)
  obtain ⟨w25, b25⟩ := or8 d54 d55 d56 b26 (by decide) (hb 17)
  obtain ⟨w24, b24⟩ := or8 d57 d58 d59 b25 (by decide) (hb 16)
  obtain ⟨w23, b23⟩ := or8 d60 d61 d62 b24 (by decide) (hb 15)
  obtain ⟨w22, b22⟩ := or8 d63 d64 d65 b23 (by decide) (hb 14)
  obtain ⟨w21, b21⟩ := or8 d66 d67 d68 b22 (by decide) (hb 13)
  obtain ⟨w20, b20⟩ := or8 d69 d70 d71 b21 (by decide) (hb 12)
  have v2 : ρ.i 71 = ((ρ.n 0 / 256 ^ 12 % 18446744073709551616 : Nat) : Int) := by rw [w20, w21, w22, w23, w24, w25, w26, w27]; exact le8 (ρ.n 0) 12
  have z2 : ρ.i 73 = ((ρ.n 0 / 256 ^ 12 : Nat) : Int) / 64 % 2251799813685248 := lim6 v2 d72 d73
  have w37 : ρ.i 75 = ((octet (ρ.n 0) 26 : Nat) : Int) := or0 d74 d75 (hb 26).1 (hb 26).2
  have b37 : 0 ≤ ρ.i 75 ∧ ρ.i 75 < 256 := by rw [w37]; exact hb 26
  obtain ⟨w36, b36⟩ := or8 d76 d77 d78 b37 (by decide) (hb 25)
  obtain ⟨w35, b35⟩ := or8 d79 d80 d81 b36 (by decide) (hb 24)
  obtain ⟨w34, b34⟩ := or8 d82 d83 d84 b35 (by decide) (hb 23)
  obtain ⟨w33, b33⟩ := or8 d85 d86 d87 b34 (by decide) (hb 22)
  obtain ⟨w32, b32⟩ := or8 d88 d89 d90 b33 (by decide) (hb 21)
  obtain ⟨w31, b31⟩ := or8 d91 d92 d93 b32 (by decide) (hb 20)
  obtain ⟨w30, b30⟩ := or8 d94 d95 d96 b31 (by decide) (hb 19)
  have v3 : ρ.i 96 = ((ρ.n 0 / 256 ^ 19 % 18446744073709551616 : Nat) : Int) := by rw [w30, w31, w32, w33, w34, w35, w36, w37]; exact le8 (ρ.n 0) 19
  have z3 : ρ.i 98 = ((ρ.n 0 / 256 ^ 19 : Nat) : Int) / 2 % 2251799813685248 := lim1 v3 d97 d98
  have w47 : ρ.i 100 = ((octet (ρ.n 0) 31 : Nat) : Int) := or0 d99 d100 (hb 31).1 (hb 31).2
  have b47 : 0 ≤ ρ.i 100 ∧ ρ.i 100 < 256 := by rw [w47]; exact hb 31
  obtain ⟨w46, b46⟩ := or8 d101 d102 d103 b47 (by decide) (hb 30)
  obtain ⟨w45, b45⟩ := or8 d104 d105 d106 b46 (by decide) (hb 29)
  obtain ⟨w44, b44⟩ := or8 d107 d108 d109 b45 (by decide) (hb 28)
  obtain ⟨w43, b43⟩ := or8 d110 d111 d112 b44 (by decide) (hb 27)
  obtain ⟨w42, b42⟩ := or8 d113 d114 d115 b43 (by decide) (hb 26)
  obtain ⟨w41, b41⟩ := or8 d116 d117 d118 b42 (by decide) (hb 25)
  obtain ⟨w40, b40⟩ := or8 d119 d120 d121 b41 (by decide) (hb 24)
  have v4 : ρ.i 121 = ((ρ.n 0 / 256 ^ 24 % 18446744073709551616 : Nat) : Int) := by rw [w40, w41, w42, w43, w44, w45, w46, w47]; exact le8 (ρ.n 0) 24
  have z4 : ρ.i 123 = ((ρ.n 0 / 256 ^ 24 : Nat) : Int) / 4096 % 2251799813685248 := lim12 v4 d122 d123
  rw [z0, z1, z2, z3, z4]
  exact elOf_fin (ρ.n 0)
theorem orW51 {hi lo x y : Int} (hx : x = hi * 2251799813685248 % 18446744073709551616) (hy : y = (((x % 18446744073709551616).toNat ||| (lo % 18446744073709551616).toNat : Nat) : Int) % 18446744073709551616) (h0 : 0 ≤ hi) (l0 : 0 ≤ lo) (l1 : lo < 2251799813685248) : y = 2251799813685248 * (hi % 8192) + lo := by
  have e1 : (x % 18446744073709551616).toNat = 2 ^ 51 * (hi % 8192).toNat := by simp only [Nat.reducePow]; omega
  have e2 : (lo % 18446744073709551616).toNat = lo.toNat := by omega
  rw [e1, e2, ← Nat.two_pow_add_eq_or_of_lt (by simp only [Nat.reducePow]; omega) _] at hy
  simp only [Nat.reducePow] at hy
  omega
theorem orW38 {hi lo x y : Int} (hx : x = hi * 274877906944 % 18446744073709551616) (hy : y = (((x % 18446744073709551616).toNat ||| (lo % 18446744073709551616).toNat : Nat) : Int) % 18446744073709551616) (h0 : 0 ≤ hi) (l0 : 0 ≤ lo) (l1 : lo < 274877906944) : y = 274877906944 * (hi % 67108864) + lo := by
  have e1 : (x % 18446744073709551616).toNat = 2 ^ 38 * (hi % 67108864).toNat := by simp only [Nat.reducePow]; omega
  have e2 : (lo % 18446744073709551616).toNat = lo.toNat := by omega
  rw [e1, e2, ← Nat.two_pow_add_eq_or_of_lt (by simp only [Nat.reducePow]; omega) _] at hy
  simp only [Nat.reducePow] at hy
  omega
theorem orW25 {hi lo x y : Int} (hx : x = hi * 33554432 % 18446744073709551616) (hy : y = (((x % 18446744073709551616).toNat ||| (lo % 18446744073709551616).toNat : Nat) : Int) % 18446744073709551616) (h0 : 0 ≤ hi) (l0 : 0 ≤ lo) (l1 : lo < 33554432) : y = 33554432 * (hi % 549755813888) + lo := by
  have e1 : (x % 18446744073709551616).toNat = 2 ^ 25 * (hi % 549755813888).toNat := by simp only [Nat.reducePow]; omega
  have e2 : (lo % 18446744073709551616).toNat = lo.toNat := by omega
  rw [e1, e2, ← Nat.two_pow_add_eq_or_of_lt (by simp only [Nat.reducePow]; omega) _] at hy
  simp only [Nat.reducePow] at hy
  omega
theorem orW12 {hi lo x y : Int} (hx : x = hi * 4096 % 18446744073709551616) (hy : y = (((x % 18446744073709551616).toNat ||| (lo % 18446744073709551616).toNat : Nat) : Int) % 18446744073709551616) (h0 : 0 ≤ hi) (l0 : 0 ≤ lo) (l1 : lo < 4096) : y = 4096 * (hi % 4503599627370496) + lo := by
  have e1 : (x % 18446744073709551616).toNat = 2 ^ 12 * (hi % 4503599627370496).toNat := by simp only [Nat.reducePow]; omega
  have e2 : (lo % 18446744073709551616).toNat = lo.toNat := by omega
  rw [e1, e2, ← Nat.two_pow_add_eq_or_of_lt (by simp only [Nat.reducePow]; omega) _] at hy
  simp only [Nat.reducePow] at hy
  omega
theorem dig4 (g0 g1 g2 g3 N : Int) (h : N = g0 + 18446744073709551616 * g1 + 340282366920938463463374607431768211456 * g2 + 6277101735386680763835789423207666416102355444464034512896 * g3) (a0 : 0 ≤ g0) (a1 : 0 ≤ g1) (a2 : 0 ≤ g2) (a3 : 0 ≤ g3) (b0 : g0 < 18446744073709551616) (b1 : g1 < 18446744073709551616) (b2 : g2 < 18446744073709551616) (b3 : g3 < 18446744073709551616) :
    g0 = N % 18446744073709551616 ∧ g1 = N / 18446744073709551616 % 18446744073709551616 ∧ g2 = N / 340282366920938463463374607431768211456 % 18446744073709551616 ∧ g3 = N / 6277101735386680763835789423207666416102355444464034512896 % 18446744073709551616 := by
  omega
theorem pack5 (r0 r1 r2 r3 r4 N : Int) (h : r0 + 2251799813685248 * r1 + 5070602400912917605986812821504 * r2 + 11417981541647679048466287755595961091061972992 * r3 + 25711008708143844408671393477458601640355247900524685364822016 * r4 = N) (h0 : 0 ≤ r0) (h1 : 0 ≤ r1) (h2 : 0 ≤ r2) (h3 : 0 ≤ r3) (h4 : 0 ≤ r4) (k0 : r0 < 2251799813685248) (k1 : r1 < 2251799813685248) (k2 : r2 < 2251799813685248) (k3 : r3 < 2251799813685248) (k4 : r4 < 2251799813685248) :
    2251799813685248 * (r1 % 8192) + r0 = N % 18446744073709551616 ∧ 274877906944 * (r2 % 67108864) + r1 / 8192 = N / 18446744073709551616 % 18446744073709551616 ∧ 33554432 * (r3 % 549755813888) + r2 / 67108864 = N / 340282366920938463463374607431768211456 % 18446744073709551616 ∧ 4096 * (r4 % 4503599627370496) + r3 / 549755813888 = N / 6277101735386680763835789423207666416102355444464034512896 % 18446744073709551616 := by
  refine dig4 _ _ _ _ N ?_ ?_ ?_ ?_ ?_ ?_ ?_ ?_ ?_ <;> omega
set_option maxHeartbeats 8000000 in
theorem elBy_lim (ρ : Env) (hd : Defs ρ elBy_ms.tr) : [ρ.i 30, ρ.i 33, ρ.i 36, ρ.i 39, ρ.i 40] = [(rdL (cpL (ρ.e 0).1)).a0, (rdL (cpL (ρ.e 0).1)).a1, (rdL (cpL (ρ.e 0).1)).a2, (rdL (cpL (ρ.e 0).1)).a3, (rdL (cpL (ρ.e 0).1)).a4] := by
  simp only [elBy_ms, Defs, Ent.def, Fi.sem, List.map_cons, List.map_nil, Sx.val, E5.at, wr, nbits, ub, ubN, Int.reduceToNat, Nat.min_def, Nat.reduceLeDiff, ↓reduceIte, Int.reducePow, and_true] at hd
  obtain ⟨d115, d114, d113, d112, d111, d110, d109, d108, d107, d106, d105, d104, d103, d102, d101, d100, d99, d98, d97, d96, d95, d94, d93, d92, d91, d90, d89, d88, d87, d86, d85, d84, d83, d82, d81, d80, d79, d78, d77, d76, d75, d74, d73, d72, d71, d70, d69, d68, d67, d66, d65, d64, d63, d62, d61, d60, d59, d58, d57, d56, d55, d54, d53, d52, d51, d50, d49, d48, d47, d46, d45, d44, d43, d42, d41, d40, d39, d38, d37, d36, d35, d34, d33, d32, d31, d30, d29, d28, d27, d26, d25, d24, d23, d22, d21, d20, d19, d18, d17, d16, d15, d14, d13, d12, d11, d10, d9, d8, d7, d6, d5, d4, d3, d2, d1, d0⟩ := hd
  clear d41 d42 d43 d44 d45 d46 d47 d48 d49 d50 d51 d52 d53 d54 d55 d56 d57 d58 d59 d60 d61 d62 d63 d64 d65 d66 d67 d68 d69 d70 d71 d72 d73 d74 d75 d76 d77 d78 d79 d80 d81 d82 d83 d84 d85 d86 d87 d88 d89 d90 d91 d92 d93 d94 d95 d96 d97 d98 d99 d100 d101 d102 d103 d104 d105 d106 d107 d108 d109 d110 d111 d112 d113 d114 d115
  have hA := (ρ.e 0).lt64
  have hm := cpL_lt (ρ.e 0).1 hA
  generalize (ρ.e 0).1 = A at *
  obtain ⟨a0, a1, a2, a3, a4⟩ := A
  obtain ⟨h0, h1, h2, h3, h4, k0, k1, k2, k3, k4⟩ := hA
  simp only at h0 h1 h2 h3 h4 k0 k1 k2 k3 k4
  dsimp only at d0 d1 d2 d3 d4 d5 d6 d7 d8 d9 d10 d11 d12 d13 d14 d15
  have m0 : ρ.i 3 = (cpL ⟨a0, a1, a2, a3, a4⟩).a0 := by rw [d3, d0, d2, d1, and51 _ h0]; simp only [cpL]; omega
  have m4 : ρ.i 6 = (cpL ⟨a0, a1, a2, a3, a4⟩).a4 := by rw [d6, d4, d5, and51 _ h4]; simp only [cpL]; omega
  have m3 : ρ.i 9 = (cpL ⟨a0, a1, a2, a3, a4⟩).a3 := by rw [d9, d7, d8, and51 _ h3]; simp only [cpL]; omega
  have m2 : ρ.i 12 = (cpL ⟨a0, a1, a2, a3, a4⟩).a2 := by rw [d12, d10, d11, and51 _ h2]; simp only [cpL]; omega
  have m1 : ρ.i 15 = (cpL ⟨a0, a1, a2, a3, a4⟩).a1 := by rw [d15, d13, d14, and51 _ h1]; simp only [cpL]; omega
  clear d0 d1 d2 d3 d4 d5 d6 d7 d8 d9 d10 d11 d12 d13 d14 d15 h0 h1 h2 h3 h4 k0 k1 k2 k3 k4
  generalize cpL ⟨a0, a1, a2, a3, a4⟩ = M at *
  obtain ⟨m0', m1', m2', m3', m4'⟩ := M
  obtain ⟨h0, h1, h2, h3, h4, k0, k1, k2, k3, k4⟩ := hm
  simp only at h0 h1 h2 h3 h4 k0 k1 k2 k3 k4 m0 m1 m2 m3 m4
  have c0 : ρ.i 17 = (m0' + 19) / 2251799813685248 := by rw [d17, d16, m0]; omega
  have c1 : ρ.i 19 = (m1' + ρ.i 17) / 2251799813685248 := by rw [d19, d18, m1]; omega
  have c2 : ρ.i 21 = (m2' + ρ.i 19) / 2251799813685248 := by rw [d21, d20, m2]; omega
  have c3 : ρ.i 23 = (m3' + ρ.i 21) / 2251799813685248 := by rw [d23, d22, m3]; omega
  have c4 : ρ.i 25 = (m4' + ρ.i 23) / 2251799813685248 := by rw [d25, d24, m4]; omega
  have cc : ρ.i 25 = rdC ⟨m0', m1', m2', m3', m4'⟩ := by simp only [rdC]; rw [c4, c3, c2, c1, c0]
  have cb : 0 ≤ ρ.i 25 ∧ ρ.i 25 ≤ 1 := by rw [c4]; rw [c0] at c1; rw [c1] at c2; rw [c2] at c3; rw [c3]; omega
  rw [cc] at cb
  have t0 : ρ.i 27 = m0' + 19 * rdC ⟨m0', m1', m2', m3', m4'⟩ := by rw [d27, d26, m0, cc]; generalize rdC _ = c at *; omega
  simp only [rdL]
  generalize rdC ⟨m0', m1', m2', m3', m4'⟩ = c at *
  clear c0 c1 c2 c3 c4 cc d16 d17 d18 d19 d20 d21 d22 d23 d24 d25 d26 d27
  have t1 : ρ.i 29 = m1' + (m0' + 19 * c) / 2251799813685248 := by rw [d29, d28, m1, t0]; omega
  have t2 : ρ.i 32 = m2' + (m1' + (m0' + 19 * c) / 2251799813685248) / 2251799813685248 := by rw [d32, d31, m2, t1]; omega
  have t3 : ρ.i 35 = m3' + (m2' + (m1' + (m0' + 19 * c) / 2251799813685248) / 2251799813685248) / 2251799813685248 := by rw [d35, d34, m3, t2]; omega
  have t4 : ρ.i 38 = m4' + (m3' + (m2' + (m1' + (m0' + 19 * c) / 2251799813685248) / 2251799813685248) / 2251799813685248) / 2251799813685248 := by rw [d38, d37, m4, t3]; omega
  have z0 : ρ.i 30 = ρ.i 27 % 2251799813685248 := by rw [d30, and51 _ (by rw [t0]; omega)]; rw [t0]; omega
  have z1 : ρ.i 33 = ρ.i 29 % 2251799813685248 := by rw [d33, and51 _ (by rw [t1]; omega)]; rw [t1]; omega
  have z2 : ρ.i 36 = ρ.i 32 % 2251799813685248 := by rw [d36, and51 _ (by rw [t2]; omega)]; rw [t2]; omega
  have z3 : ρ.i 39 = ρ.i 35 % 2251799813685248 := by rw [d39, and51 _ (by rw [t3]; omega)]; rw [t3]; omega
  have z4 : ρ.i 40 = ρ.i 38 % 2251799813685248 := by rw [d40, and51 _ (by rw [t4]; omega)]; rw [t4]; omega
  rw [z0, z1, z2, z3, z4, t0, t1, t2, t3, t4]
theorem octU00 (N : Nat) : (N : Int) % 18446744073709551616 / 1 % 256 = ((octet N 0 : Nat) : Int) := by simp only [octet, Nat.reducePow]; omega
theorem octU01 (N : Nat) : (N : Int) % 18446744073709551616 / 256 % 256 = ((octet N 1 : Nat) : Int) := by simp only [octet, Nat.reducePow]; omega
theorem octU02 (N : Nat) : (N : Int) % 18446744073709551616 / 65536 % 256 = ((octet N 2 : Nat) : Int) := by simp only [octet, Nat.reducePow]; omega
theorem octU03 (N : Nat) : (N : Int) % 18446744073709551616 / 16777216 % 256 = ((octet N 3 : Nat) : Int) := by simp only [octet, Nat.reducePow]; omega
theorem octU04 (N : Nat) : (N : Int) % 18446744073709551616 / 4294967296 % 256 = ((octet N 4 : Nat) : Int) := by simp only [octet, Nat.reducePow]; omega
theorem octU05 (N : Nat) : (N : Int) % 18446744073709551616 / 1099511627776 % 256 = ((octet N 5 : Nat) : Int) := by simp only [octet, Nat.reducePow]; omega
theorem octU06 (N : Nat) : (N : Int) % 18446744073709551616 / 281474976710656 % 256 = ((octet N 6 : Nat) : Int) := by simp only [octet, Nat.reducePow]; omega
theorem octU07 (N : Nat) : (N : Int) % 18446744073709551616 / 72057594037927936 % 256 = ((octet N 7 : Nat) : Int) := by simp only [octet, Nat.reducePow]; omega
theorem octU10 (N : Nat) : (N : Int) / 18446744073709551616 % 18446744073709551616 / 1 % 256 = ((octet N 8 : Nat) : Int) := by simp only [octet, Nat.reducePow]; omega
theorem octU11 (N : Nat) : (N : Int) / 18446744073709551616 % 18446744073709551616 / 256 % 256 = ((octet N 9 : Nat) : Int) := by simp only [octet, Nat.reducePow]; omega
theorem octU12 (N : Nat) : (N : Int) / 18446744073709551616 % 18446744073709551616 / 65536 % 256 = ((octet N 10 : Nat) : Int) := by simp only [octet, Nat.reducePow]; omega
theorem octU13 (N : Nat) : (N : Int) / 18446744073709551616 % 18446744073709551616 / 16777216 % 256 = ((octet N 11 : Nat) : Int) := by simp only [octet, Nat.reducePow]; omega
theorem octU14 (N : Nat) : (N : Int) / 18446744073709551616 % 18446744073709551616 / 4294967296 % 256 = ((octet N 12 : Nat) : Int) := by simp only [octet, Nat.reducePow]; omega
theorem octU15 (N : Nat) : (N : Int) / 18446744073709551616 % 18446744073709551616 / 1099511627776 % 256 = ((octet N 13 : Nat) : Int) := by simp only [octet, Nat.reducePow]; omega
theorem octU16 (N : Nat) : (N : Int) / 18446744073709551616 % 18446744073709551616 / 281474976710656 % 256 = ((octet N 14 : Nat) : Int) := by simp only [octet, Nat.reducePow]; omega
theorem octU17 (N : Nat) : (N : Int) / 18446744073709551616 % 18446744073709551616 / 72057594037927936 % 256 = ((octet N 15 : Nat) : Int) := by simp only [octet, Nat.reducePow]; omega
theorem octU20 (N : Nat) : (N : Int) / 340282366920938463463374607431768211456 % 18446744073709551616 / 1 % 256 = ((octet N 16 : Nat) : Int) := by simp only [octet, Nat.reducePow]; omega
theorem octU21 (N : Nat) : (N : Int) / 340282366920938463463374607431768211456 % 18446744073709551616 / 256 % 256 = ((octet N 17 : Nat) : Int) := by simp only [octet, Nat.reducePow]; omega
theorem octU22 (N : Nat) : (N : Int) / 340282366920938463463374607431768211456 % 18446744073709551616 / 65536 % 256 = ((octet N 18 : Nat) : Int) := by simp only [octet, Nat.reducePow]; omega
theorem octU23 (N : Nat) : (N : Int) / 340282366920938463463374607431768211456 % 18446744073709551616 / 16777216 % 256 = ((octet N 19 : Nat) : Int) := by simp only [octet, Nat.reducePow]; omega
theorem octU24 (N : Nat) : (N : Int) / 340282366920938463463374607431768211456 % 18446744073709551616 / 4294967296 % 256 = ((octet N 20 : Nat) : Int) := by simp only [octet, Nat.reducePow]; omega
theorem octU25 (N : Nat) : (N : Int) / 340282366920938463463374607431768211456 % 18446744073709551616 / 1099511627776 % 256 = ((octet N 21 : Nat) : Int) := by simp only [octet, Nat.reducePow]; omega
theorem octU26 (N : Nat) : (N : Int) / 340282366920938463463374607431768211456 % 18446744073709551616 / 281474976710656 % 256 = ((octet N 22 : Nat) : Int) := by simp only [octet, Nat.reducePow]; omega
theorem octU27 (N : Nat) : (N : Int) / 340282366920938463463374607431768211456 % 18446744073709551616 / 72057594037927936 % 256 = ((octet N 23 : Nat) : Int) := by simp only [octet, Nat.reducePow]; omega
theorem octU30 (N : Nat) : (N : Int) / 6277101735386680763835789423207666416102355444464034512896 % 18446744073709551616 / 1 % 256 = ((octet N 24 : Nat) : Int) := by simp only [octet, Nat.reducePow]; omega
theorem octU31 (N : Nat) : (N : Int) / 6277101735386680763835789423207666416102355444464034512896 % 18446744073709551616 / 256 % 256 = ((octet N 25 : Nat) : Int) := by simp only [octet, Nat.reducePow]; omega
theorem octU32 (N : Nat) : (N : Int) / 6277101735386680763835789423207666416102355444464034512896 % 18446744073709551616 / 65536 % 256 = ((octet N 26 : Nat) : Int) := by simp only [octet, Nat.reducePow]; omega
theorem octU33 (N : Nat) : (N : Int) / 6277101735386680763835789423207666416102355444464034512896 % 18446744073709551616 / 16777216 % 256 = ((octet N 27 : Nat) : Int) := by simp only [octet, Nat.reducePow]; omega
theorem octU34 (N : Nat) : (N : Int) / 6277101735386680763835789423207666416102355444464034512896 % 18446744073709551616 / 4294967296 % 256 = ((octet N 28 : Nat) : Int) := by simp only [octet, Nat.reducePow]; omega
theorem octU35 (N : Nat) : (N : Int) / 6277101735386680763835789423207666416102355444464034512896 % 18446744073709551616 / 1099511627776 % 256 = ((octet N 29 : Nat) : Int) := by simp only [octet, Nat.reducePow]; omega
theorem octU36 (N : Nat) : (N : Int) / 6277101735386680763835789423207666416102355444464034512896 % 18446744073709551616 / 281474976710656 % 256 = ((octet N 30 : Nat) : Int) := by simp only [octet, Nat.reducePow]; omega
theorem octU37 (N : Nat) : (N : Int) / 6277101735386680763835789423207666416102355444464034512896 % 18446744073709551616 / 72057594037927936 % 256 = ((octet N 31 : Nat) : Int) := by simp only [octet, Nat.reducePow]; omega
set_option maxHeartbeats 8000000 in
theorem elBy_math (ρ : Env) (hd : Defs ρ elBy_ms.tr) : Asms ρ elBy_ms.tr ∧ [ρ.i 53, ρ.i 55, ρ.i 57, ρ.i 59, ρ.i 61, ρ.i 63, ρ.i 65, ρ.i 67, ρ.i 69, ρ.i 71, ρ.i 73, ρ.i 75, ρ.i 77, ρ.i 79, ρ.i 81, ρ.i 83, ρ.i 85, ρ.i 87, ρ.i 89, ρ.i 91, ρ.i 93, ρ.i 95, ρ.i 97, ρ.i 99, ρ.i 101, ρ.i 103, ρ.i 105, ρ.i 107, ρ.i 109, ρ.i 111, ρ.i 113, ρ.i 115] = octs (canonE (ρ.e 0)) 0 32 := by
  refine ⟨by simp only [elBy_ms, Asms, Ent.asn, and_true], ?_⟩
  have hl := elBy_lim ρ hd
  simp only [List.cons.injEq, and_true] at hl
  obtain ⟨l0, l1, l2, l3, l4⟩ := hl
  have hV := rdL_cpL (ρ.e 0).1 (ρ.e 0).lt64
  have hlt := rdL_lt (cpL (ρ.e 0).1)
  have hc : (rdL (cpL (ρ.e 0).1)).ev = ((canonE (ρ.e 0) : Nat) : Int) := hV
  have hN : canonE (ρ.e 0) < 57896044618658097711785492504343953926634992332820282019728792003956564819949 := (ρ.e 0).fe.isLt
  generalize canonE (ρ.e 0) = N at *
  clear hV
  simp only [elBy_ms, Defs, Ent.def, Fi.sem, List.map_cons, List.map_nil, Sx.val, E5.at, wr, nbits, ub, ubN, Int.reduceToNat, Nat.min_def, Nat.reduceLeDiff, ↓reduceIte, Int.reducePow, and_true] at hd
  obtain ⟨d115, d114, d113, d112, d111, d110, d109, d108, d107, d106, d105, d104, d103, d102, d101, d100, d99, d98, d97, d96, d95, d94, d93, d92, d91, d90, d89, d88, d87, d86, d85, d84, d83, d82, d81, d80, d79, d78, d77, d76, d75, d74, d73, d72, d71, d70, d69, d68, d67, d66, d65, d64, d63, d62, d61, d60, d59, d58, d57, d56, d55, d54, d53, d52, d51, d50, d49, d48, d47, d46, d45, d44, d43, d42, d41, d40, d39, d38, d37, d36, d35, d34, d33, d32, d31, d30, d29, d28, d27, d26, d25, d24, d23, d22, d21, d20, d19, d18, d17, d16, d15, d14, d13, d12, d11, d10, d9, d8, d7, d6, d5, d4, d3, d2, d1, d0⟩ := hd
  clear d0 d1 d2 d3 d4 d5 d6 d7 d8 d9 d10 d11 d12 d13 d14 d15 d16 d17 d18 d19 d20 d21 d22 d23 d24 d25 d26 d27 d28 d29 d30 d31 d32 d33 d34 d35 d36 d37 d38 d39 d40
  generalize rdL (cpL (ρ.e 0).1) = R at *
  obtain ⟨r0, r1, r2, r3, r4⟩ := R
  obtain ⟨h0, h1, h2, h3, h4, k0, k1, k2, k3, k4⟩ := hlt
  simp only [E5.ev] at h0 h1 h2 h3 h4 k0 k1 k2 k3 k4 l0 l1 l2 l3 l4 hc
  obtain ⟨U0, U1, U2, U3⟩ := pack5 r0 r1 r2 r3 r4 N hc h0 h1 h2 h3 h4 k0 k1 k2 k3 k4
  rw [l1] at d41; rw [l0] at d42; have u0 := orW51 d41 d42 h1 h0 k0
  rw [l2] at d43; rw [l1] at d44; have u1 := orW38 d43 d45 h2 (by rw [d44]; exact Int.ediv_nonneg h1 (by decide)) (by rw [d44]; exact Int.ediv_lt_of_lt_mul (by decide) (Int.lt_of_lt_of_le k1 (by decide)))
  rw [l3] at d46; rw [l2] at d47; have u2 := orW25 d46 d48 h3 (by rw [d47]; exact Int.ediv_nonneg h2 (by decide)) (by rw [d47]; exact Int.ediv_lt_of_lt_mul (by decide) (Int.lt_of_lt_of_le k2 (by decide)))
  rw [l4] at d49; rw [l3] at d50; have u3 := orW12 d49 d51 h4 (by rw [d50]; exact Int.ediv_nonneg h3 (by decide)) (by rw [d50]; exact Int.ediv_lt_of_lt_mul (by decide) (Int.lt_of_lt_of_le k3 (by decide)))
  rw [d44] at u1; rw [d47] at u2; rw [d50] at u3
  rw [U0] at u0; rw [U1] at u1; rw [U2] at u2; rw [U3] at u3
  have x0 : ρ.i 53 = ((octet N 0 : Nat) : Int) := by rw [d53, d52, u0]; exact octU00 N
  have x1 : ρ.i 55 = ((octet N 1 : Nat) : Int) := by rw [d55, d54, u0]; exact octU01 N
  have x2 : ρ.i 57 = ((octet N 2 : Nat) : Int) := by rw [d57, d56, u0]; exact octU02 N
  have x3 : ρ.i 59 = ((octet N 3 : Nat) : Int) := by rw [d59, d58, u0]; exact octU03 N
  have x4 : ρ.i 61 = ((octet N 4 : Nat) : Int) := by rw [d61, d60, u0]; exact octU04 N
  have x5 : ρ.i 63 = ((octet N 5 : Nat) : Int) := by rw [d63, d62, u0]; exact octU05 N
  have x6 : ρ.i 65 = ((octet N 6 : Nat) : Int) := by rw [d65, d64, u0]; exact octU06 N
  have x7 : ρ.i 67 = ((octet N 7 : Nat) : Int) := by rw [d67, d66, u0]; exact octU07 N
  have x8 : ρ.i 69 = ((octet N 8 : Nat) : Int) := by rw [d69, d68, u1]; exact octU10 N
  have x9 : ρ.i 71 = ((octet N 9 : Nat) : Int) := by rw [d71, d70, u1]; exact octU11 N
  have x10 : ρ.i 73 = ((octet N 10 : Nat) : Int) := by rw [d73, d72, u1]; exact octU12 N
  have x11 : ρ.i 75 = ((octet N 11 : Nat) : Int) := by rw [d75, d74, u1]; exact octU13 N
  have x12 : ρ.i 77 = ((octet N 12 : Nat) : Int) := by rw [d77, d76, u1]; exact octU14 N
  have x13 : ρ.i 79 = ((octet N 13 : Nat) : Int) := by rw [d79, d78, u1]; exact octU15 N
  have x14 : ρ.i 81 = ((octet N 14 : Nat) : Int) := by rw [d81, d80, u1]; exact octU16 N
  have x15 : ρ.i 83 = ((octet N 15 : Nat) : Int) := by rw [d83, d82, u1]; exact octU17 N
  have x16 : ρ.i 85 = ((octet N 16 : Nat) : Int) := by rw [d85, d84, u2]; exact octU20 N
  have x17 : ρ.i 87 = ((octet N 17 : Nat) : Int) := by rw [d87, d86, u2]; exact octU21 N
  have x18 : ρ.i 89 = ((octet N 18 : Nat) : Int) := by rw [d89, d88, u2]; exact octU22 N
  have x19 : ρ.i 91 = ((octet N 19 : Nat) : Int) := by rw [d91, d90, u2]; exact octU23 N
  have x20 : ρ.i 93 = ((octet N 20 : Nat) : Int) := by rw [d93, d92, u2]; exact octU24 N
  have x21 : ρ.i 95 = ((octet N 21 : Nat) : Int) := by rw [d95, d94, u2]; exact octU25 N
  have x22 : ρ.i 97 = ((octet N 22 : Nat) : Int) := by rw [d97, d96, u2]; exact octU26 N
  have x23 : ρ.i 99 = ((octet N 23 : Nat) : Int) := by rw [d99, d98, u2]; exact octU27 N
  have x24 : ρ.i 101 = ((octet N 24 : Nat) : Int) := by rw [d101, d100, u3]; exact octU30 N
  have x25 : ρ.i 103 = ((octet N 25 : Nat) : Int) := by rw [d103, d102, u3]; exact octU31 N
  have x26 : ρ.i 105 = ((octet N 26 : Nat) : Int) := by rw [d105, d104, u3]; exact octU32 N
  have x27 : ρ.i 107 = ((octet N 27 : Nat) : Int) := by rw [d107, d106, u3]; exact octU33 N
  have x28 : ρ.i 109 = ((octet N 28 : Nat) : Int) := by rw [d109, d108, u3]; exact octU34 N
  have x29 : ρ.i 111 = ((octet N 29 : Nat) : Int) := by rw [d111, d110, u3]; exact octU35 N
  have x30 : ρ.i 113 = ((octet N 30 : Nat) : Int) := by rw [d113, d112, u3]; exact octU36 N
  have x31 : ρ.i 115 = ((octet N 31 : Nat) : Int) := by rw [d115, d114, u3]; exact octU37 N
  rw [x0, x1, x2, x3, x4, x5, x6, x7, x8, x9, x10, x11, x12, x13, x14, x15, x16, x17, x18, x19, x20, x21, x22, x23, x24, x25, x26, x27, x28, x29, x30, x31]
  rfl
end Go.Proofs.YtpaidbefbkokfaaDoor
