/- Symbolic values, memory and traces: the words in which a straight road through the code is reckoned by the kernel. No condition. -/
import Derived.WalkKit
import Derived.Test.YtpaidbefbkokfaaDoorElt
namespace Go.Proofs.YtpaidbefbkokfaaDoor
open Go
set_option linter.unusedVariables false
set_option linter.unusedSimpArgs false

/-! ### integers -/
/-- The value that a kind of integer keeps of n. -/
def wr : IntKind → Int → Int
  | .u64, n => n % 18446744073709551616
  | .u32, n => n % 4294967296
  | .u16, n => n % 65536
  | .u8, n => n % 256
  | .i64, n => (n + 9223372036854775808) % 18446744073709551616 - 9223372036854775808
  | .i32, n => (n + 2147483648) % 4294967296 - 2147483648
  | .i16, n => (n + 32768) % 65536 - 32768
  | .i8, n => (n + 128) % 256 - 128
theorem wr_eq (k : IntKind) (n : Int) : k.wrap n = wr k n := by
  cases k <;> simp only [wr, IntKind.wrap, IntKind.bits, IntKind.signed, Bool.false_and, Bool.true_and, Bool.false_eq_true, if_false, decide_eq_true_eq, ge_iff_le, Nat.reduceSub, Int.reducePow] <;> (split <;> omega)
def nbits : IntKind → Nat
  | .u64 | .i64 => 64
  | .u32 | .i32 => 32
  | .u16 | .i16 => 16
  | .u8 | .i8 => 8
theorem nbits_eq (k : IntKind) : k.bits = nbits k := by cases k <;> rfl
/-- The bits of n as a natural number. -/
def ub : IntKind → Int → Nat
  | .u64, n | .i64, n => (n % 18446744073709551616).toNat
  | .u32, n | .i32, n => (n % 4294967296).toNat
  | .u16, n | .i16, n => (n % 65536).toNat
  | .u8, n | .i8, n => (n % 256).toNat
theorem ub_eq (k : IntKind) (n : Int) : (BitVec.ofInt k.bits n).toNat = ub k n := by
  cases k <;> (simp only [IntKind.bits, BitVec.toNat_ofInt, ub]; rfl)
def ubN (k : IntKind) : Nat := match k with
  | .u64 | .i64 => 18446744073709551615
  | .u32 | .i32 => 4294967295
  | .u16 | .i16 => 65535
  | .u8 | .i8 => 255

def lo : IntKind → Int
  | .i64 => -9223372036854775808
  | .i32 => -2147483648
  | .i16 => -32768
  | .i8 => -128
  | _ => 0
def hi : IntKind → Int
  | .u64 => 18446744073709551616
  | .u32 => 4294967296
  | .u16 => 65536
  | .u8 => 256
  | .i64 => 9223372036854775808
  | .i32 => 2147483648
  | .i16 => 32768
  | .i8 => 128
/-- n is a value of kind k. -/
def inR (k : IntKind) (n : Int) : Prop := lo k ≤ n ∧ n < hi k
instance (k : IntKind) (n : Int) : Decidable (inR k n) := by unfold inR; infer_instance
theorem wr_in (k : IntKind) (n : Int) : inR k (wr k n) := by
  cases k <;> simp only [inR, lo, hi, wr] <;> omega

/-! ### symbols -/
inductive Sx where
  | c (n : Int)
  | x (i : Nat)
  | l (e j : Nat)
  | w (n j : Nat)
  | o (n j : Nat)
  | oi (n i : Nat)
  | wi (n i : Nat)
  deriving DecidableEq, Repr, Inhabited
inductive Sb where
  | c (b : Bool)
  | x (i : Nat)
  deriving DecidableEq, Repr, Inhabited

structure Env where
  i : Nat → Int
  b : Nat → Bool
  e : Nat → Elt
  n : Nat → Nat
  v : Nat → Value

def word (n j : Nat) : Nat := n / 18446744073709551616 ^ j % 18446744073709551616
def octet (n j : Nat) : Nat := n / 256 ^ j % 256
def Sx.val (ρ : Env) : Sx → Int
  | .c n => n
  | .x i => ρ.i i
  | .l e j => (ρ.e e).1.at j
  | .w n j => (word (ρ.n n) j : Nat)
  | .o n j => (octet (ρ.n n) j : Nat)
  | .oi n i => (octet (ρ.n n) (ρ.i i).toNat : Nat)
  | .wi n i => (word (ρ.n n) (ρ.i i).toNat : Nat)
def Sb.val (ρ : Env) : Sb → Bool
  | .c b => b
  | .x i => ρ.b i

/-- Functions are printed by their names alone. -/
instance {α : Type} : Repr (α → Int) := ⟨fun _ _ => "?"⟩
instance {α : Type} : Repr (α → Nat) := ⟨fun _ _ => "?"⟩
instance {α : Type} : Repr (α → Elt) := ⟨fun _ _ => "?"⟩
instance {α : Type} : Repr (α → Bool) := ⟨fun _ _ => "?"⟩
instance {α β : Type} [Repr β] : Repr (List α → β) := ⟨fun _ _ => "?"⟩
inductive Fi where
  | add (k : IntKind) | sub (k : IntKind) | mul (k : IntKind) | and (k : IntKind) | or (k : IntKind) | xor (k : IntKind) | andNot (k : IntKind)
  | shl (k : IntKind) | shr (k : IntKind) | quo (k : IntKind) | rem (k : IntKind) | conv (k : IntKind) | neg (k : IntKind) | not (k : IntKind)
  | mulHi | mulLo | addS | addC | subD | subB | m19 | amLo | amHi | am19Lo | am19Hi | am38Lo | am38Hi | s51 | b2i | eqI
  | fx (nm : String) (f : List Int → Int)
  deriving Repr, Inhabited
def Fi.sem : Fi → List Int → Int
  | .add k, [a, b] => wr k (a + b)
  | .sub k, [a, b] => wr k (a - b)
  | .mul k, [a, b] => wr k (a * b)
  | .and k, [a, b] => wr k ((ub k a &&& ub k b : Nat) : Int)
  | .or k, [a, b] => wr k ((ub k a ||| ub k b : Nat) : Int)
  | .xor k, [a, b] => wr k ((ub k a ^^^ ub k b : Nat) : Int)
  | .andNot k, [a, b] => wr k ((ub k a &&& (ubN k - ub k b) : Nat) : Int)
  | .shl k, [a, b] => wr k (a * 2 ^ min b.toNat (nbits k))
  | .shr k, [a, b] => a / 2 ^ min b.toNat (nbits k)
  | .quo k, [a, b] => wr k (a.tdiv b)
  | .rem k, [a, b] => a.tmod b
  | .conv k, [a] => wr k a
  | .neg k, [a] => wr k (0 - a)
  | .not k, [a] => wr k ((ubN k ^^^ ub k a : Nat) : Int)
  | .mulHi, [a, b] => a * b / 18446744073709551616
  | .mulLo, [a, b] => a * b % 18446744073709551616
  | .addS, [a, b, c] => (a + b + c) % 18446744073709551616
  | .addC, [a, b, c] => if 18446744073709551616 ≤ a + b + c then 1 else 0
  | .subD, [a, b, c] => (a - b - c) % 18446744073709551616
  | .subB, [a, b, c] => if a < b + c then 1 else 0
  | .m19, [a] => a * 19 % 18446744073709551616
  | .amLo, [l, h, a, b] => (l + 18446744073709551616 * h + a * b) % 18446744073709551616
  | .amHi, [l, h, a, b] => (l + 18446744073709551616 * h + a * b) / 18446744073709551616 % 18446744073709551616
  | .am19Lo, [l, h, a, b] => (l + 18446744073709551616 * h + a * 19 % 18446744073709551616 * b) % 18446744073709551616
  | .am19Hi, [l, h, a, b] => (l + 18446744073709551616 * h + a * 19 % 18446744073709551616 * b) / 18446744073709551616 % 18446744073709551616
  | .am38Lo, [l, h, a, b] => (l + 18446744073709551616 * h + a * 19 % 18446744073709551616 * (b * 2 % 18446744073709551616)) % 18446744073709551616
  | .am38Hi, [l, h, a, b] => (l + 18446744073709551616 * h + a * 19 % 18446744073709551616 * (b * 2 % 18446744073709551616)) / 18446744073709551616 % 18446744073709551616
  | .s51, [l, h] => (l + 18446744073709551616 * h) / 2251799813685248 % 18446744073709551616
  | .eqI, l => if l.take (l.length / 2) = l.drop (l.length / 2) then 1 else 0
  | .fx _ f, l => f l
  | _, _ => 0
/-- 2^256. -/
def W4 : Nat := 115792089237316195423570985008687907853269984665640564039457584007913129639936
inductive Fb where
  | eql | neq | lss | leq | gtr | geq | not | eqs | neqs | bit | beq | bne | nlt
  | fx (nm : String) (f : List Int → List Nat → List Bool → Bool)
  deriving Repr, Inhabited
def Fb.sem : Fb → List Int → List Nat → List Bool → Bool
  | .eql, [a, b], _, _ => a == b
  | .neq, [a, b], _, _ => a != b
  | .lss, [a, b], _, _ => decide (a < b)
  | .leq, [a, b], _, _ => decide (a ≤ b)
  | .gtr, [a, b], _, _ => decide (a > b)
  | .geq, [a, b], _, _ => decide (a ≥ b)
  | .not, _, _, [b] => !b
  | .eqs, l, _, _ => decide (l.take (l.length / 2) = l.drop (l.length / 2))
  | .neqs, l, _, _ => !decide (l.take (l.length / 2) = l.drop (l.length / 2))
  | .bit, [i], [n], _ => n.testBit i.toNat
  | .nlt, _, [a, b], _ => decide (a % W4 < b % W4)
  | .beq, _, _, [a, b] => a == b
  | .bne, _, _, [a, b] => a != b
  | .fx _ f, l, m, k => f l m k
  | _, _, _, _ => false
def litE (a0 a1 a2 a3 a4 : Int) : Elt := if h : 0 ≤ a0 ∧ 0 ≤ a1 ∧ 0 ≤ a2 ∧ 0 ≤ a3 ∧ 0 ≤ a4 ∧ a0 < BD ∧ a1 < BD ∧ a2 < BD ∧ a3 < BD ∧ a4 < BD then
    ⟨⟨a0, a1, a2, a3, a4⟩, ⟨h.1, h.2.1, h.2.2.1, h.2.2.2.1, h.2.2.2.2.1, h.2.2.2.2.2.1, h.2.2.2.2.2.2.1, h.2.2.2.2.2.2.2.1, h.2.2.2.2.2.2.2.2.1, h.2.2.2.2.2.2.2.2.2⟩⟩ else zeroE
inductive Fe where
  | mul | sq | add | sub | sel | sqN | sb | zero | one | set | m32
  | lit (a0 a1 a2 a3 a4 : Int)
  | fx (nm : String) (f : List Elt → List Int → List Nat → Elt)
  deriving Repr, Inhabited
def Fe.sem : Fe → List Elt → List Int → List Nat → Elt
  | .mul, [a, b], _, _ => mulE a b
  | .sq, [a], _, _ => sqE a
  | .add, [a, b], _, _ => addE a b
  | .sub, [a, b], _, _ => subE a b
  | .sel, [a, b], [c], _ => selE c a b
  | .sqN, [a], [n], _ => sqNE a n.toNat
  | .m32, [a], [n], _ => m32E n a
  | .sb, _, _, [n] => sbE n
  | .zero, _, _, _ => zeroE
  | .one, _, _, _ => oneE
  | .set, [a], _, _ => a
  | .lit a0 a1 a2 a3 a4, _, _, _ => litE a0 a1 a2 a3 a4
  | .fx _ f, l, m, k => f l m k
  | _, _, _, _ => zeroE
inductive Fn where
  | canon | plus | minus | times | power | elem | sqs | of | ofw
  | red (k : Nat)
  | sadd | ssub | sopp | smul | sto | sfrom
  | mulx | muly | mulz
  | fx (nm : String) (f : List Elt → List Int → List Nat → Nat)
  deriving Repr, Inhabited
/-- a + b modulo m, as the reference reckons it. -/
def plusN (a b m : Nat) : Nat := if (a + b) % 2 ^ 256 < m then (a + b) % 2 ^ 256 else (a + b) % 2 ^ 256 - m
def minusN (a b m : Nat) : Nat := if a < b then (a + 2 ^ 256 - b + m) % 2 ^ 256 else a - b
/-- k bits of n, the highest first: each doubles what is there, and adds a where it is 1. -/
def bitsF (a n m : Nat) : Nat → Nat → Nat
  | 0, out => out
  | k + 1, out => bitsF a n m k (if n.testBit k then plusN (plusN out out m) a m else plusN out out m)
def timesN (a b m : Nat) : Nat := bitsF a b m 256 0
def powF (a e m : Nat) : Nat → Nat → Nat
  | 0, out => out
  | k + 1, out => powF a e m k (if e.testBit k then timesN (timesN out out m) a m else timesN out out m)
def powerN (a e m : Nat) : Nat := powF a e m 256 1
/-- 2^255 - 19. -/
def pP : Nat := 57896044618658097711785492504343953926634992332820282019728792003956564819949
def sqsN (a : Nat) : Nat → Nat
  | 0 => a
  | k + 1 => sqsN (timesN a a pP) k
/-- l, and what 2^256 times it is 1 modulo l. -/
def lL : Nat := 7237005577332262213973186563042994240857116359379907606001950938285454250989
def lRI : Nat := 4458503529701987551646482192314240623644693141688353256590997718326214331684
/-- d of the curve. -/
def dN : Nat := 37095705934669439343138083508754565189542113879843219016388785533085940283555
/-- Points by three numbers, added as the reference does. -/
def addN (p q : Nat × Nat × Nat) : Nat × Nat × Nat :=
  let zz := timesN p.2.2 q.2.2 pP
  let xx := timesN p.1 q.1 pP
  let yy := timesN p.2.1 q.2.1 pP
  let e := timesN dN (timesN xx yy pP) pP
  let sq := timesN zz zz pP
  let more := plusN sq e pP
  let less := minusN sq e pP
  let across := plusN (timesN p.1 q.2.1 pP) (timesN q.1 p.2.1 pP) pP
  (timesN zz (timesN across less pP) pP, timesN zz (timesN (plusN xx yy pP) more pP) pP, timesN more less pP)
def multF (n : Nat) (p : Nat × Nat × Nat) : Nat → Nat × Nat × Nat → Nat × Nat × Nat
  | 0, out => out
  | k + 1, out => multF n p k (if n.testBit k then addN (addN out out) p else addN out out)
def multN (n : Nat) (p : Nat × Nat × Nat) : Nat × Nat × Nat := multF n p 256 (0, 1, 1)
/-- The number whose bytes these are, the lowest first. -/
def ofB : List Int → Nat
  | [] => 0
  | x :: l => x.toNat + 256 * ofB l
def ofW : List Int → Nat
  | [] => 0
  | x :: l => x.toNat + 18446744073709551616 * ofW l
def Fn.sem : Fn → List Elt → List Int → List Nat → Nat
  | .canon, [a], _, _ => canonE a
  | .plus, _, _, [a, b, m] => plusN (a % W4) (b % W4) (m % W4)
  | .minus, _, _, [a, b, m] => minusN (a % W4) (b % W4) (m % W4)
  | .times, _, _, [a, b, m] => timesN (a % W4) (b % W4) (m % W4)
  | .power, _, _, [a, b, m] => powerN (a % W4) (b % W4) (m % W4)
  | .elem, _, _, [a] => a % 57896044618658097711785492504343953926634992332820282019728792003956564819968 % pP
  | .sqs, _, [i], [a] => sqsN (a % W4) i.toNat
  | .red k, _, _, [n, m] => bitsF 1 n (m % W4) (8 * k) 0
  | .sadd, _, _, [a, b] => (a % W4 + b % W4) % lL
  | .ssub, _, _, [a, b] => (a % W4 + (lL - b % W4 % lL)) % lL
  | .sopp, _, _, [a] => (lL - a % W4 % lL) % lL
  | .smul, _, _, [a, b] => a % W4 * (b % W4) * lRI % lL
  | .sto, _, _, [a] => a % W4 * W4 % lL
  | .sfrom, _, _, [a] => a % W4 * lRI % lL
  | .mulx, _, _, [n, x, y, z] => (multN (n % W4) (x % W4, y % W4, z % W4)).1
  | .muly, _, _, [n, x, y, z] => (multN (n % W4) (x % W4, y % W4, z % W4)).2.1
  | .mulz, _, _, [n, x, y, z] => (multN (n % W4) (x % W4, y % W4, z % W4)).2.2
  | .of, _, xs, _ => ofB xs
  | .ofw, _, xs, _ => ofW xs
  | .fx _ f, l, m, k => f l m k
  | _, _, _, _ => 0

inductive Ent where
  | di (k : Nat) (f : Fi) (xs : List Sx)
  | db (k : Nat) (f : Fb) (xs : List Sx) (ns : List Nat) (bs : List Sb)
  | de (k : Nat) (f : Fe) (es : List Nat) (xs : List Sx) (ns : List Nat)
  | dn (k : Nat) (f : Fn) (es : List Nat) (xs : List Sx) (ns : List Nat)
  | asm (b : Sb) (v : Bool)
  deriving Repr, Inhabited
def Ent.ok (ρ : Env) : Ent → Prop
  | .di k f xs => ρ.i k = f.sem (xs.map (Sx.val ρ))
  | .db k f xs ns bs => ρ.b k = f.sem (xs.map (Sx.val ρ)) (ns.map ρ.n) (bs.map (Sb.val ρ))
  | .de k f es xs ns => ρ.e k = f.sem (es.map ρ.e) (xs.map (Sx.val ρ)) (ns.map ρ.n)
  | .dn k f es xs ns => ρ.n k = f.sem (es.map ρ.e) (xs.map (Sx.val ρ)) (ns.map ρ.n)
  | .asm b v => b.val ρ = v
def Sat (ρ : Env) : List Ent → Prop
  | [] => True
  | e :: l => e.ok ρ ∧ Sat ρ l

inductive SV where
  | any | undef | nilp | nili
  | int (k : IntKind) (x : Sx)
  | bool (x : Sb)
  | ptr (c o : Nat)
  | slice (c o n cap : Nat)
  | ptrI (c o i k : Nat)
  | sl (i : Nat)
  | tbl (q i k : Nat) (l : List (Nat × Nat))
  | cell1
  | opq (i : Nat)
  | iface (t : Nat) (v : SV)
  | agg (vs : List SV)
  | tuple (vs : List SV)
  deriving Repr, Inhabited

abbrev Adr := Nat → Option (Nat × Nat)
mutual
def VRel (ρ : Env) (α : Adr) : SV → Value → Prop
  | .any, _ => True
  | .undef, v => v = Go.undef
  | .nilp, v => v = .pointer none
  | .nili, v => v = .nilIface
  | .int k x, v => v = .int k (x.val ρ) ∧ inR k (x.val ρ)
  | .bool x, v => v = .bool (x.val ρ)
  | .ptr c o, v => ∃ b s, α c = some (b, s) ∧ v = .pointer (some ⟨b, s + o, none⟩)
  | .slice c o n cap, v => ∃ b s cap', α c = some (b, s) ∧ cap ≤ cap' ∧ v = .slice (some ⟨b, s + o, none⟩) n cap'
  | .ptrI c o i k, v => ∃ b s, α c = some (b, s) ∧ v = .pointer (some ⟨b, s + o + (ρ.i i).toNat, none⟩) ∧ 0 ≤ ρ.i i ∧ ρ.i i < k
  | .cell1, v => v.oneCell' = true ∧ v.cells = #[v]
  | .sl i, v => ∃ a n cap, v = .slice a n cap ∧ ((n : Nat) : Int) = ρ.i i ∧ inR .i64 (n : Nat)
  | .tbl q i k l, v => v = ρ.v q ∧ ∃ a n cap, v = .slice a n cap ∧ ((n : Nat) : Int) = ρ.i i ∧ inR .i64 (n : Nat) ∧ ∀ jc ∈ l, 0 ≤ ρ.i jc.1 ∧ ρ.i jc.1 < (n : Nat) ∧ ∃ b s, a = some ⟨b, s, none⟩ ∧ α jc.2 = some (b, s + (ρ.i jc.1).toNat * k)
  | .opq i, v => v = ρ.v i
  | .iface t x, v => ∃ u, v = .iface t u ∧ VRel ρ α x u
  | .agg vs, v => ∃ us : List Value, v = .agg us.toArray ∧ VRels ρ α vs us
  | .tuple vs, v => ∃ us : List Value, v = .tuple us.toArray ∧ VRels ρ α vs us
def VRels (ρ : Env) (α : Adr) : List SV → List Value → Prop
  | [], us => us = []
  | s :: vs, us => ∃ u us', us = u :: us' ∧ VRel ρ α s u ∧ VRels ρ α vs us'
end

def Le (α α' : Adr) : Prop := ∀ c x, α c = some x → α' c = some x
theorem Le.refl (α : Adr) : Le α α := fun _ _ h => h
theorem Le.trans {α β γ : Adr} (h : Le α β) (k : Le β γ) : Le α γ := fun c x hc => k c x (h c x hc)
mutual
theorem VRel.le {ρ : Env} {α α' : Adr} (h : Le α α') : (s : SV) → {v : Value} → VRel ρ α s v → VRel ρ α' s v
  | .any, _, _ => by simp only [VRel]
  | .undef, _, hv => by simpa only [VRel] using hv
  | .nilp, _, hv => by simpa only [VRel] using hv
  | .nili, _, hv => by simpa only [VRel] using hv
  | .int k x, _, hv => by simpa only [VRel] using hv
  | .bool x, _, hv => by simpa only [VRel] using hv
  | .ptr c o, _, hv => by
    simp only [VRel] at hv ⊢
    obtain ⟨b, s, h1, h2⟩ := hv
    exact ⟨b, s, h _ _ h1, h2⟩
  | .slice c o n cap, _, hv => by
    simp only [VRel] at hv ⊢
    obtain ⟨b, s, cap', h1, h2⟩ := hv
    exact ⟨b, s, cap', h _ _ h1, h2⟩
  | .ptrI c o i k, _, hv => by
    simp only [VRel] at hv ⊢
    obtain ⟨b, s, h1, h2⟩ := hv
    exact ⟨b, s, h _ _ h1, h2⟩
  | .sl i, _, hv => by simpa only [VRel] using hv
  | .tbl q i k l, _, hv => by
    simp only [VRel] at hv ⊢
    obtain ⟨h0, a, n, cap, h1, h2, h3, h4⟩ := hv
    refine ⟨h0, a, n, cap, h1, h2, h3, fun jc hj => ⟨(h4 jc hj).1, (h4 jc hj).2.1, ?_⟩⟩
    obtain ⟨b, s, e1, e2⟩ := (h4 jc hj).2.2
    exact ⟨b, s, e1, h _ _ e2⟩
  | .cell1, _, hv => by simpa only [VRel] using hv
  | .opq i, _, hv => by simpa only [VRel] using hv
  | .iface t x, _, hv => by
    simp only [VRel] at hv ⊢
    obtain ⟨u, h1, h2⟩ := hv
    exact ⟨u, h1, VRel.le h x h2⟩
  | .agg vs, _, hv => by
    simp only [VRel] at hv ⊢
    obtain ⟨us, h1, h2⟩ := hv
    exact ⟨us, h1, VRels.le h vs h2⟩
  | .tuple vs, _, hv => by
    simp only [VRel] at hv ⊢
    obtain ⟨us, h1, h2⟩ := hv
    exact ⟨us, h1, VRels.le h vs h2⟩
theorem VRels.le {ρ : Env} {α α' : Adr} (h : Le α α') : (s : List SV) → {v : List Value} → VRels ρ α s v → VRels ρ α' s v
  | [], _, hv => by simpa only [VRels] using hv
  | s :: vs, _, hv => by
    simp only [VRels] at hv ⊢
    obtain ⟨u, us', h1, h2, h3⟩ := hv
    exact ⟨u, us', h1, VRel.le h s h2, VRels.le h vs h3⟩
end
theorem VRels.length {ρ : Env} {α : Adr} : ∀ {s : List SV} {v : List Value}, VRels ρ α s v → v.length = s.length
  | [], _, hv => by simp only [VRels] at hv; simp [hv]
  | s :: vs, _, hv => by
    simp only [VRels] at hv
    obtain ⟨u, us', rfl, h2, h3⟩ := hv
    simp [VRels.length h3]
theorem VRels.get {ρ : Env} {α : Adr} : ∀ {s : List SV} {v : List Value}, VRels ρ α s v → ∀ {j : Nat} {x : SV}, s[j]? = some x → ∃ u, v[j]? = some u ∧ VRel ρ α x u
  | [], _, hv, j, x, h => by simp at h
  | s :: vs, _, hv, j, x, h => by
    simp only [VRels] at hv
    obtain ⟨u, us', rfl, h2, h3⟩ := hv
    cases j with
    | zero => simp only [List.getElem?_cons_zero, Option.some.injEq] at h; subst h; exact ⟨u, by simp, h2⟩
    | succ j => simp only [List.getElem?_cons_succ] at h ⊢; exact VRels.get h3 h
theorem VRels.of_get {ρ : Env} {α : Adr} : ∀ {s : List SV} {v : List Value}, v.length = s.length → (∀ (j : Nat) (x : SV), s[j]? = some x → ∃ u, v[j]? = some u ∧ VRel ρ α x u) → VRels ρ α s v
  | [], v, hl, _ => by simp only [VRels]; exact List.eq_nil_of_length_eq_zero hl
  | s :: vs, [], hl, _ => by simp at hl
  | s :: vs, u :: us, hl, h => by
    simp only [VRels]
    obtain ⟨u', hu, hr⟩ := h 0 s (by simp)
    simp only [List.getElem?_cons_zero, Option.some.injEq] at hu
    subst hu
    exact ⟨u, us, rfl, hr, VRels.of_get (by simpa using hl) fun j x hx => by simpa using h (j + 1) x (by simpa using hx)⟩
theorem VRels.append {ρ : Env} {α : Adr} : ∀ {s s' : List SV} {v v' : List Value}, VRels ρ α s v → VRels ρ α s' v' → VRels ρ α (s ++ s') (v ++ v')
  | [], _, _, _, h, h' => by simp only [VRels] at h; subst h; simpa using h'
  | s :: vs, _, _, _, h, h' => by
    simp only [VRels] at h
    obtain ⟨u, us', rfl, h2, h3⟩ := h
    simp only [List.cons_append, VRels]
    exact ⟨u, _, rfl, h2, VRels.append h3 h'⟩

/-- The cells that a value takes. -/
def SV.cells : SV → List SV
  | .agg vs => vs
  | v => [v]
/-- A value that lies in one cell. -/
def SV.one : SV → Bool
  | .nilp | .nili | .int .. | .bool _ | .ptr .. | .slice .. | .iface .. | .cell1 => true
  | _ => false
theorem SV.one_value {ρ : Env} {α : Adr} {s : SV} {v : Value} (h : VRel ρ α s v) (h1 : s.one = true) : v.oneCell' = true ∧ v.cells = #[v] := by
  cases s <;> simp only [SV.one, Bool.false_eq_true] at h1 <;> simp only [VRel] at h <;>
    first | (subst h; exact ⟨rfl, rfl⟩) | (obtain ⟨rfl, _⟩ := h; exact ⟨rfl, rfl⟩) | (obtain ⟨b, s, _, rfl⟩ := h; exact ⟨rfl, rfl⟩) | (obtain ⟨b, s, c, _, _, rfl⟩ := h; exact ⟨rfl, rfl⟩) | exact h | (obtain ⟨u, rfl, _⟩ := h; exact ⟨rfl, rfl⟩)
/-- One cell, or an aggregate of such. -/
def SV.flat : SV → Bool
  | .agg vs => vs.all SV.one
  | v => v.one
theorem SV.flat_cells {ρ : Env} {α : Adr} {s : SV} {v : Value} (h : VRel ρ α s v) (hf : s.flat = true) : VRels ρ α s.cells v.cells.toList ∧ s.cells.all SV.one = true := by
  cases s with
  | agg vs =>
    simp only [VRel] at h
    obtain ⟨us, rfl, h2⟩ := h
    exact ⟨by simpa [Value.cells, SV.cells] using h2, hf⟩
  | _ =>
    first
    | (simp only [SV.flat, SV.one, Bool.false_eq_true] at hf; done)
    | (have h1 := (SV.one_value h hf).2
       rw [h1]
       refine ⟨?_, by simpa [SV.cells, SV.flat] using hf⟩
       simp only [SV.cells, VRels]
       exact ⟨v, [], rfl, h, rfl⟩)
end Go.Proofs.YtpaidbefbkokfaaDoor
