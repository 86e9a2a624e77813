/- SetBytes of a slice that is not 32 bytes long: contract and rule. No condition. -/
import Derived.Test.YtachbdnefnnmfaaSb
import Derived.Test.YtachbdnefnnmfaaBit
namespace Go.Proofs.Ytachbdnefnnmfaa
open Go Go.RowKit
set_option linter.unusedVariables false
set_option linter.unusedSimpArgs false
set_option maxRecDepth 100000

def SbOC (T : Nat) (P : Program) (f : FuncId) : Prop := ∀ (w : World) (u : Value) (a : Option Addr) (n c : Nat), n ≠ 32 → inR .i64 (n : Nat) →
  Invokes P f #[u, .slice a n c] w fun r w' => (∃ x, r = .tuple #[.pointer none, .iface T x]) ∧ Fr (fun _ _ => False) w w'
def sboRule (T : Nat) : Rule := fun ms args => match args with
  | [_, .sl i] => some (.tuple [.nilp, .iface T .any], { ms with tr := .asm (.x ms.nb) true :: .db ms.nb .neq [.x i, .c 32] [] [] :: ms.tr, nb := ms.nb + 1 })
  | _ => sbRule ms args
theorem sboRule_ok {P : Program} {f : FuncId} {T : Nat} (h : SbC P f) (h2 : SbOC T P f) : RuleOk P f (sboRule T) := by
  intro ρ ms ms' args ret hr hs
  unfold sboRule at hr
  split at hr
  · rename_i u0 i
    simp only [Option.some.injEq, Prod.mk.injEq] at hr
    obtain ⟨rfl, rfl⟩ := hr
    have ha : ρ.b ms.nb = true := hs.1
    have hd : ρ.b ms.nb = (ρ.i i != 32) := hs.2.1
    rw [hd] at ha
    have hne : ρ.i i ≠ 32 := bne_iff_ne.1 ha
    refine ⟨⟨hs.2.2, rfl, Nat.le_refl _⟩, fun S w0 α w vs hm hg hv => ?_⟩
    simp only [VRels, VRel] at hv
    obtain ⟨u1, t1, rfl, _, u2, t2, rfl, ⟨a, n, cap, rfl, hn, hin⟩, rfl⟩ := hv
    refine (h2 w u1 a n cap (by omega) hin).mono ?_
    rintro r w' ⟨⟨x, rfl⟩, hf⟩
    refine ⟨α, Ext.refl _ _, ?_, hm.grow hf⟩
    simp only [VRel, VRels]
    exact ⟨_, rfl, _, _, rfl, rfl, _, _, rfl, ⟨_, rfl, trivial⟩, rfl⟩
  · exact sbRule_ok h ρ ms ms' args ret hr hs

def sbo_ms : Ms := ⟨[⟨[.cell1], true⟩], [.asm (.x 0) true, .db 0 (.neq) [.x 0, .c 32] [] []], 1, 1, 0, 0, [], []⟩
theorem sbo_run : runOk (body tabB 2 45) (msP 0 1 [true]) ([.any, .sl 0]) (.tuple [.nilp, .iface 81 (.ptr 0 0)]) sbo_ms := ⟨by kernel_rfl, by kernel_rfl, by kernel_rfl, by kernel_rfl⟩
theorem sbo_c : SbOC 81 Try.prog 45 := by
  intro w u a n c hn hin
  have hv : VRels (envN [] [(n : Nat)]) (fun _ => none) [.any, .sl 0] [u, .slice a n c] := by
    simp only [VRels, VRel]
    exact ⟨_, _, rfl, trivial, _, _, rfl, ⟨a, n, c, rfl, rfl, hin⟩, rfl⟩
  refine (run_calls (body_ok tabB_ok 2 _) sbo_run MRep.none (fun g c hgc => by simp [msP] at hgc) hv fun ρ' ha hd => ?_).mono ?_
  · have hb : ρ'.b 0 = (ρ'.i 0 != 32) := hd.2.1
    have hi : ρ'.i 0 = (n : Nat) := (ha.i 0 (by decide))
    simp only [sbo_ms, Asms, Ent.asn, Sb.val, and_true]
    rw [hb, hi]
    exact bne_iff_ne.2 (by omega)
  · rintro v w' ⟨ρ', α', ha, hd, _, hv, hm⟩
    simp only [VRel, VRels] at hv
    obtain ⟨us, rfl, u1, t1, rfl, rfl, u2, t2, rfl, ⟨x, rfl, _⟩, rfl⟩ := hv
    exact ⟨⟨x, rfl⟩, hm.fr⟩
end Go.Proofs.Ytachbdnefnnmfaa
