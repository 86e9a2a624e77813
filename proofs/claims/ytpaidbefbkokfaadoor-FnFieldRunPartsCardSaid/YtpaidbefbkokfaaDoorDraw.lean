/- A region that draws its order: run in the order of the text, with a check that every other order does the same. No condition. -/
import Derived.Test.YtpaidbefbkokfaaDoorSeq
namespace Go.Proofs.YtpaidbefbkokfaaDoor
open Go Go.RowKit
set_option linter.unusedVariables false
set_option linter.unusedSimpArgs false

mutual
def SV.beq : SV → SV → Bool
  | .any, .any => true
  | .undef, .undef => true
  | .nilp, .nilp => true
  | .nili, .nili => true
  | .int k x, .int k' y => decide (k = k') && decide (x = y)
  | .bool x, .bool y => decide (x = y)
  | .ptr c o, .ptr c' o' => Nat.beq c c' && Nat.beq o o'
  | .slice c o n m, .slice c' o' n' m' => Nat.beq c c' && Nat.beq o o' && Nat.beq n n' && Nat.beq m m'
  | .opq i, .opq j => Nat.beq i j
  | .ptrI c o i k, .ptrI c' o' i' k' => Nat.beq c c' && Nat.beq o o' && Nat.beq i i' && Nat.beq k k'
  | .sl i, .sl j => Nat.beq i j
  | .cell1, .cell1 => true
  | .iface t x, .iface t' y => Nat.beq t t' && SV.beq x y
  | .agg a, .agg b => SV.beqs a b
  | .tuple a, .tuple b => SV.beqs a b
  | _, _ => false
def SV.beqs : List SV → List SV → Bool
  | [], [] => true
  | x :: l, y :: m => SV.beq x y && SV.beqs l m
  | _, _ => false
end
mutual
theorem SV.beq_eq : ∀ (a b : SV), SV.beq a b = true → a = b := by
  intro a b h
  cases a <;> cases b <;> simp only [SV.beq, Bool.and_eq_true, decide_eq_true_eq, Nat.beq_eq_true_eq, Bool.false_eq_true] at h
  all_goals first
    | rfl
    | (rw [h])
    | (rw [h.1, h.2])
    | (rw [Nat.eq_of_beq_eq_true h])
    | (rw [Nat.eq_of_beq_eq_true h.1.1.1, Nat.eq_of_beq_eq_true h.1.1.2, Nat.eq_of_beq_eq_true h.1.2, Nat.eq_of_beq_eq_true h.2])
    | (rw [Nat.eq_of_beq_eq_true h.1, Nat.eq_of_beq_eq_true h.2])
    | (rw [Nat.eq_of_beq_eq_true h.1, SV.beq_eq _ _ h.2])
    | (rw [SV.beqs_eq _ _ h])
theorem SV.beqs_eq : ∀ (a b : List SV), SV.beqs a b = true → a = b
  | [], [], _ => rfl
  | [], _ :: _, h => by simp [SV.beqs] at h
  | _ :: _, [], h => by simp [SV.beqs] at h
  | x :: l, y :: m, h => by
    simp only [SV.beqs, Bool.and_eq_true] at h
    rw [SV.beq_eq x y h.1, SV.beqs_eq l m h.2]
end

inductive DK where
  | pure | load | chain | skip
  | float (c : Nat)
  deriving Repr, Inhabited, DecidableEq
structure Rec where
  o : Oper
  kd : DK
  s : SV
  tm : Tm
  k : Nat
  ms : Ms
  ms' : Ms
  deriving Inhabited

def evR (gl : List (Nat × Nat)) (tm : Tm) (al : List Nat) : Operand → Option SV
  | .tmp t => if al.contains t then tm.get t else none
  | x => evT gl tm x
def floatOf (o : Oper) : Option TypeId :=
  match o.guard with
  | none => match o.op with
    | .alloc t => some t
    | _ => none
  | some _ => none
def floats (P : Program) : List Oper → Option (List Chunk)
  | [] => some []
  | o :: l => match floatOf o with
    | some t => match zeroOf P t, floats P l with
      | some z, some r => some (⟨z.map ofCell, true⟩ :: r)
      | _, _ => none
    | none => floats P l

def dstep (P : Program) (R : FuncId → Option Rule) (ops : List Oper) (o : Oper) (fl k : Nat) (tm : Tm) (ms : Ms) : Option Rec :=
  match floatOf o with
  | some t => some ⟨o, .float fl, .ptr fl 0, tm, k, ms, ms⟩
  | none => match wantS ops tm ms o with
    | some (false, ms1) => some ⟨o, .skip, .undef, tm, k, ms1, ms1⟩
    | some (true, ms1) => match kindOf o.op with
      | .pure => match spure P (knOf ms1.tr) ms1.ni ms1.nb (evR ms1.gl tm (o.looksAt ops.toArray)) o.op with
        | some (s, es, ni, nb) => some ⟨o, .pure, s, tm, k, ms1, { ms1 with tr := es ++ ms1.tr, ni := ni, nb := nb }⟩
        | none => none
      | .load => match sload P ms1.mem (evR ms1.gl tm (o.looksAt ops.toArray)) o.op with
        | some s => some ⟨o, .load, s, tm, k, ms1, ms1⟩
        | none => none
      | .eff => match seff P R ms1 (evR ms1.gl tm (o.looksAt ops.toArray)) o.op with
        | some (s, ms2) => some ⟨o, .chain, s, tm, k, ms1, ms2⟩
        | none => none
    | none => none
def isChain (d : DK) : Bool := match d with
  | .chain => true
  | _ => false
def isFloat (d : DK) : Bool := match d with
  | .float _ => true
  | _ => false
def drun (P : Program) (R : FuncId → Option Rule) (ops : List Oper) (nt : Nat) : List Oper → Nat → Nat → Tm → Ms → Option (List Rec × List (List Chunk) × Tm × Ms)
  | [], _, _, tm, ms => some ([], [], tm, ms)
  | o :: l, fl, k, tm, ms => match dstep P R ops o fl k tm ms with
    | some r => match putS nt tm o.dst r.s with
      | some tm' => match drun P R ops nt l (bif isFloat r.kd then fl + 1 else fl) (bif isChain r.kd then k + 1 else k) tm' r.ms' with
        | some (rs, cm, tm2, ms2) => some (r :: rs, (bif isChain r.kd then r.ms'.mem :: cm else cm), tm2, ms2)
        | none => none
      | none => none
    | none => none

/-! ### the checks -/
def allI (n : Nat) (f : Nat → Bool) : Bool := (List.range n).all f
def waits (ops : List Oper) (j i : Nat) : Bool := match ops[j]? with
  | some oj => oj.after.toList.any fun e => Region.binds .any e && Nat.beq e.on i
  | none => false
def edgesB (ops : List Oper) : Bool := ops.zipIdx.all fun (o, i) => o.after.toList.all fun e => !Region.binds .any e || Nat.blt e.on i
def tmpsB (ops : List Oper) : Bool := ops.zipIdx.all fun (oi, i) => match oi.dst with
  | none => true
  | some t => ops.zipIdx.all fun (oj, j) => Nat.beq i j || (!(decide (oj.dst = some t)) && (!((oj.looksAt ops.toArray).contains t) || (bif Nat.blt i j then waits ops j i else waits ops i j)))
/-- The same by way of others. -/
def waitsT (ops : List Oper) : Nat → Nat → Nat → Bool
  | 0, j, i => waits ops j i
  | f + 1, j, i => waits ops j i || (List.range j).any fun m => Nat.blt i m && waits ops j m && waitsT ops f m i
def waits2 (ops : List Oper) (j i : Nat) : Bool := waitsT ops 8 j i
def chainsB (ops : List Oper) (recs : List Rec) : Bool := recs.zipIdx.all fun (r, i) => !isChain r.kd ||
  ((Nat.beq r.k 0 || recs.zipIdx.any fun (r', j) => isChain r'.kd && Nat.beq (r'.k + 1) r.k && waits2 ops i j) &&
   recs.zipIdx.all fun (r', j) => Nat.beq i j || !isChain r'.kd || !Nat.beq r'.k r.k)
/-- Whether operation i may come behind just k operations of the chain. -/
def feas (ops : List Oper) (recs : List Rec) (i k : Nat) : Bool := recs.zipIdx.all fun (r, j) => !isChain r.kd ||
  ((!waits ops i j || Nat.blt r.k k) && (!waits ops j i || Nat.ble k r.k))
def loadsB (P : Program) (ops : List Oper) (recs : List Rec) (mems : List (List Chunk)) : Bool := recs.zipIdx.all fun (r, i) => match r.kd with
  | .load => mems.zipIdx.all fun (M, k) => !feas ops recs i k || (match sload P M (evR r.ms.gl r.tm (r.o.looksAt ops.toArray)) r.o.op with
    | some s => SV.beq s r.s
    | none => false)
  | .float c => (match r.o.op with
    | .alloc t => (match zeroOf P t with
      | some z => mems.zipIdx.all fun (M, k) => !feas ops recs i k || (match M[c]? with
        | some ch => SV.beqs ch.cells (z.map ofCell)
        | none => false)
      | none => false)
    | _ => false) && recs.zipIdx.all fun (r', j) => Nat.beq i j || (match r'.kd with
      | .float c' => !Nat.beq c c'
      | _ => true)
  | _ => true
def drawS (P : Program) (R : FuncId → Option Rule) (nt : Nat) (ops : List Oper) (tm : Tm) (ms : Ms) : Option (Tm × Ms) :=
  match floats P ops with
  | none => none
  | some fc => match drun P R ops nt ops ms.mem.length 0 tm { ms with mem := ms.mem ++ fc } with
    | none => none
    | some (recs, cm, tm', ms') =>
      if (edgesB ops && tmpsB ops && chainsB ops recs && loadsB P ops recs ((ms.mem ++ fc) :: cm)) = true then some (tm', ms') else none
end Go.Proofs.YtpaidbefbkokfaaDoor
