import PyProof.Rows.All
import Wide.All
import OpenK.AllK
import Wide.FinOn
import PySem.Sre
import PySem.Builtin.Sre.Common
import Lean
import PySem.Challenge.RW_un0030_01
set_option Elab.async false
set_option maxRecDepth 100000
set_option maxHeartbeats 8000000
set_option linter.all false
namespace Mine
section
open PySem PySem.W PyProof.Rows
noncomputable def view : Program := { Challenge.rw_un0030_01.row.prog with main := { Challenge.rw_un0030_01.row.prog.main with body := [0,1,3,5,6,7,8,9,10,11,13,14,15,16,17,19,20,21,22,23,24,25].filterMap fun i => Challenge.rw_un0030_01.row.prog.main.body[i]? } }
theorem qah {p q : Program} {loose : List Str} {Xt : Shared -> Bool} {α : Type} {Yf : Shared -> α} {Ya : World -> α} {N : Nat} {g0 : Bool}
  (h : ∀ w : World, ((((Fast.tw10274390034422433532 Fast.tw14364793385576792824 (W.opening p) w N (Fast.tw1435165496053646825 (W.opening p)).1 (Fast.tw1435165496053646825 (W.opening p)).2).bind (Fast.tw14289696077712309145 p)).bind (fun s₀ => match s₀.heap.isNs mainGlobals && s₀.gens.size == 0 with
   | true => (Fast.tw14082659384304107361 Fast.tw14364793385576792824 p w s₀.heap.objs.size (s₀.heap.nsMap mainGlobals (Str.ofString "__annotations__")) N s₀ (topStub p)).bind fun s₁ =>
    match staticsOk (importedModules p.main.body) s₀.heap s₁.heap && namesBound p s₁.heap && gensDone s₁ && laidKept s₀.heap s₁.heap with
    | true => some s₁
    | false => none
   | false => none)).map fun s => (Fast.tw4187177175401517315 q loose (importedModules p.main.body) Xt g0 s, Yf s)) = some (openGood q loose, Ya w)) : LeftO p q loose Xt Yf Ya N g0 := by
 rw [<- Fast.te10274390034422433532, <- Fast.te14364793385576792824, <- Fast.te1435165496053646825, <- Fast.te14289696077712309145, <- Fast.te14082659384304107361, <- Fast.te4187177175401517315] at h
 exact h
theorem qcm : Challenge.rw_un0030_01.wellSaid = true := (congrFun Fast.te9446332074065402090 _).trans (by kernel_rfl)
section
local macro_rules | `(tactic| o_law) => `(tactic| refine holds_law qcm fun said => ?_)
local macro_rules | `(tactic| o_head (kmHook $k $a $e $_t)) => `(tactic| (
 (refine holds_open (q := view) (loose := [Str.ofString "_twin_re_1", Str.ofString "_Accumulator"]) (Xt := fun s => xlAt view [] s && recOk (RowW.records (OpenRow.toRowW Challenge.rw_un0030_01.row)) s) (XP := XL view []) (Yf := Hook.obs (kmHook $k $a $e [68, 61, 211, 218])) (Ya := Hook.val (kmHook $k $a $e [68, 61, 211, 218])) (YP := Hook.says (kmHook $k $a $e [68, 61, 211, 218])) (N := 3346) ?hl (Hook.of (kmHook $k $a $e [68, 61, 211, 218])) (Hook.keeps (kmHook $k $a $e [68, 61, 211, 218])) (fun s e => xl_of s (Bool.and_eq_true_iff.mp e).1) XL.keeps (by rfl) (by rfl) (by rfl) (fun s e => recFacts_of (Bool.and_eq_true_iff.mp e).2) (by rfl) (by first | assumption | decide +kernel) (by decide +kernel) ⟨rfl, rfl, rfl, rfl, rfl, by decide +kernel⟩ ?hw ?hc);
 (case hl => exact qah fun w => by kernel_rfl)))
open_top hd for PySem.Challenge.rw_un0030_01
end
end
example : True := by
 w_top off
 trivial
local macro_rules | `(tactic| walk_at $s:str) => `(tactic| k_extra $(Lean.Syntax.mkStrLit ("m " ++ s.getString)))
local macro_rules | `(tactic| wtm_at $s:str) => `(tactic| k_extra $(Lean.Syntax.mkStrLit ("w " ++ s.getString)))
local macro_rules | `(tactic| k_all) => `(tactic| k_extra "k_all")
local macro_rules | `(tactic| k_room) => `(tactic| k_extra "k_room")
local macro_rules | `(tactic| k_enter) => `(tactic| k_extra "k_enter")
local macro_rules | `(tactic| kn_enter) => `(tactic| k_extra "kn_enter")
local macro_rules | `(tactic| k_inst) => `(tactic| k_extra "k_inst")
local macro_rules | `(tactic| omega) => `(tactic| k_extra "omega")
local macro_rules | `(tactic| k_lt $h:ident) => `(tactic| (replace $h := PySem.W.allLt_of $h; simp only [PySem.W.AllLt, and_true] at $h:ident; (try (repeat (have l9 := And.left $h; replace $h := And.right $h)))))
section
open PySem PySem.W PyProof.Rows PySem.Calls
section
section
universe u0 u1 u2 u3 u4 u5 u6 u7
variable {P : Prop} {T0 : Sort u0} {T1 : Sort u1} {T2 : Sort u2} {T3 : Sort u3} {T4 : Sort u4} {T5 : Sort u5} {T6 : Sort u6} {T7 : Sort u7} {A0 A1 A2 A3 A4 A5 A6 : Prop} {B0 B1 B2 B3 B4 : T0 -> Prop} {C0 C1 C2 C3 C4 C5 C6 C7 C8 : T0 -> T1 -> Prop} {D0 D1 D2 D3 D4 D5 D6 D7 : T0 -> T1 -> T2 -> Prop} {F0 F1 F2 F3 F4 F5 : T0 -> T1 -> T2 -> T3 -> Prop} {G0 G1 G2 G3 G4 G5 G6 G7 : T0 -> T1 -> T2 -> T3 -> T4 -> Prop} {H0 H1 H2 H3 H4 H5 H6 H7 H8 H9 H10 H11 : T0 -> T1 -> T2 -> T3 -> T4 -> T5 -> Prop} {J0 J1 J2 J3 J4 J5 J6 : T0 -> T1 -> T2 -> T3 -> T4 -> T5 -> T6 -> T7 -> Prop}
theorem E_a (h : A0 /\ A1) (k : A0 -> A1 -> P) : P := k h.1 h.2
theorem E_e (h : ∃ x, B0 x) (k : ∀ x, B0 x -> P) : P := h.elim fun x h => k x h
theorem E_aa (h : A0 /\ A1 /\ A2) (k : A0 -> A1 -> A2 -> P) : P := k h.1 h.2.1 h.2.2
theorem E_ae (h : A0 /\ ∃ x, B0 x) (k : A0 -> ∀ x, B0 x -> P) : P := h.2.elim fun x h' => k h.1 x h'
theorem E_ea (h : ∃ x, B0 x /\ B1 x) (k : ∀ x, B0 x -> B1 x -> P) : P := h.elim fun x h => k x h.1 h.2
theorem E_ee (h : ∃ x y, C0 x y) (k : ∀ x y, C0 x y -> P) : P := h.elim fun x h => h.elim fun y h => k x y h
theorem q2e (h : A0 /\ A1 /\ A2 /\ A3) (k : A0 -> A1 -> A2 -> A3 -> P) : P := k h.1 h.2.1 h.2.2.1 h.2.2.2
theorem qgw (h : A0 /\ A1 /\ ∃ x, B0 x) (k : A0 -> A1 -> ∀ x, B0 x -> P) : P := h.2.2.elim fun x h' => k h.1 h.2.1 x h'
theorem qg0 (h : A0 /\ ∃ x, B0 x /\ B1 x) (k : A0 -> ∀ x, B0 x -> B1 x -> P) : P := h.2.elim fun x h' => k h.1 x h'.1 h'.2
theorem q1u (h : ∃ x, B0 x /\ B1 x /\ B2 x) (k : ∀ x, B0 x -> B1 x -> B2 x -> P) : P := h.elim fun x h => k x h.1 h.2.1 h.2.2
theorem qgp (h : ∃ x, B0 x /\ ∃ y, C0 x y) (k : ∀ x, B0 x -> ∀ y, C0 x y -> P) : P := h.elim fun x h => h.2.elim fun y h' => k x h.1 y h'
theorem q07 (h : ∃ x y, C0 x y /\ C1 x y) (k : ∀ x y, C0 x y -> C1 x y -> P) : P := h.elim fun x h => h.elim fun y h => k x y h.1 h.2
theorem q2n (h : ∃ x y z, D0 x y z) (k : ∀ x y z, D0 x y z -> P) : P := h.elim fun x h => h.elim fun y h => h.elim fun z h => k x y z h
theorem q2r (h : A0 /\ A1 /\ A2 /\ A3 /\ A4) (k : A0 -> A1 -> A2 -> A3 -> A4 -> P) : P := k h.1 h.2.1 h.2.2.1 h.2.2.2.1 h.2.2.2.2
theorem q1i (h : A0 /\ ∃ x y, C0 x y /\ C1 x y) (k : A0 -> ∀ x y, C0 x y -> C1 x y -> P) : P := h.2.elim fun x h' => h'.elim fun y h' => k h.1 x y h'.1 h'.2
theorem q3l (h : ∃ x, B0 x /\ B1 x /\ B2 x /\ B3 x) (k : ∀ x, B0 x -> B1 x -> B2 x -> B3 x -> P) : P := h.elim fun x h => k x h.1 h.2.1 h.2.2.1 h.2.2.2
theorem q89 (h : ∃ x, B0 x /\ B1 x /\ ∃ y, C0 x y) (k : ∀ x, B0 x -> B1 x -> ∀ y, C0 x y -> P) : P := h.elim fun x h => h.2.2.elim fun y h' => k x h.1 h.2.1 y h'
theorem q08 (h : ∃ x y, C0 x y /\ C1 x y /\ C2 x y) (k : ∀ x y, C0 x y -> C1 x y -> C2 x y -> P) : P := h.elim fun x h => h.elim fun y h => k x y h.1 h.2.1 h.2.2
theorem q2u (h : ∃ x y z, D0 x y z /\ D1 x y z) (k : ∀ x y z, D0 x y z -> D1 x y z -> P) : P := h.elim fun x h => h.elim fun y h => h.elim fun z h => k x y z h.1 h.2
theorem qbx (h : ∃ x y z w, F0 x y z w) (k : ∀ x y z w, F0 x y z w -> P) : P := h.elim fun x h => h.elim fun y h => h.elim fun z h => h.elim fun w h => k x y z w h
theorem qeq (h : A0 /\ A1 /\ A2 /\ A3 /\ A4 /\ A5) (k : A0 -> A1 -> A2 -> A3 -> A4 -> A5 -> P) : P := k h.1 h.2.1 h.2.2.1 h.2.2.2.1 h.2.2.2.2.1 h.2.2.2.2.2
theorem q84 (h : A0 /\ ∃ x y, C0 x y /\ C1 x y /\ C2 x y) (k : A0 -> ∀ x y, C0 x y -> C1 x y -> C2 x y -> P) : P := h.2.elim fun x h' => h'.elim fun y h' => k h.1 x y h'.1 h'.2.1 h'.2.2
theorem q9x (h : ∃ x, B0 x /\ B1 x /\ B2 x /\ B3 x /\ B4 x) (k : ∀ x, B0 x -> B1 x -> B2 x -> B3 x -> B4 x -> P) : P := h.elim fun x h => k x h.1 h.2.1 h.2.2.1 h.2.2.2.1 h.2.2.2.2
theorem q10 (h : ∃ x y, C0 x y /\ C1 x y /\ C2 x y /\ C3 x y) (k : ∀ x y, C0 x y -> C1 x y -> C2 x y -> C3 x y -> P) : P := h.elim fun x h => h.elim fun y h => k x y h.1 h.2.1 h.2.2.1 h.2.2.2
theorem q1o (h : ∃ x y z, D0 x y z /\ D1 x y z /\ D2 x y z) (k : ∀ x y z, D0 x y z -> D1 x y z -> D2 x y z -> P) : P := h.elim fun x h => h.elim fun y h => h.elim fun z h => k x y z h.1 h.2.1 h.2.2
theorem q0y (h : ∃ x y z w v, G0 x y z w v) (k : ∀ x y z w v, G0 x y z w v -> P) : P := h.elim fun x h => h.elim fun y h => h.elim fun z h => h.elim fun w h => h.elim fun v h => k x y z w v h
theorem q5p (h : A0 /\ A1 /\ A2 /\ A3 /\ A4 /\ A5 /\ A6) (k : A0 -> A1 -> A2 -> A3 -> A4 -> A5 -> A6 -> P) : P := k h.1 h.2.1 h.2.2.1 h.2.2.2.1 h.2.2.2.2.1 h.2.2.2.2.2.1 h.2.2.2.2.2.2
theorem q8t (h : A0 /\ A1 /\ ∃ x y, C0 x y /\ C1 x y /\ C2 x y) (k : A0 -> A1 -> ∀ x y, C0 x y -> C1 x y -> C2 x y -> P) : P := h.2.2.elim fun x h' => h'.elim fun y h' => k h.1 h.2.1 x y h'.1 h'.2.1 h'.2.2
theorem qc8 (h : A0 /\ ∃ x y z, D0 x y z /\ D1 x y z /\ D2 x y z) (k : A0 -> ∀ x y z, D0 x y z -> D1 x y z -> D2 x y z -> P) : P := h.2.elim fun x h' => h'.elim fun y h' => h'.elim fun z h' => k h.1 x y z h'.1 h'.2.1 h'.2.2
theorem q5r (h : ∃ x, B0 x /\ ∃ y, C0 x y /\ C1 x y /\ C2 x y /\ C3 x y) (k : ∀ x, B0 x -> ∀ y, C0 x y -> C1 x y -> C2 x y -> C3 x y -> P) : P := h.elim fun x h => h.2.elim fun y h' => k x h.1 y h'.1 h'.2.1 h'.2.2.1 h'.2.2.2
theorem q62 (h : ∃ x, B0 x /\ ∃ y z, D0 x y z /\ D1 x y z /\ D2 x y z) (k : ∀ x, B0 x -> ∀ y z, D0 x y z -> D1 x y z -> D2 x y z -> P) : P := h.elim fun x h => h.2.elim fun y h' => h'.elim fun z h' => k x h.1 y z h'.1 h'.2.1 h'.2.2
theorem q0g (h : ∃ x y, C0 x y /\ C1 x y /\ C2 x y /\ C3 x y /\ C4 x y) (k : ∀ x y, C0 x y -> C1 x y -> C2 x y -> C3 x y -> C4 x y -> P) : P := h.elim fun x h => h.elim fun y h => k x y h.1 h.2.1 h.2.2.1 h.2.2.2.1 h.2.2.2.2
theorem q09 (h : ∃ x y z, D0 x y z /\ D1 x y z /\ D2 x y z /\ D3 x y z) (k : ∀ x y z, D0 x y z -> D1 x y z -> D2 x y z -> D3 x y z -> P) : P := h.elim fun x h => h.elim fun y h => h.elim fun z h => k x y z h.1 h.2.1 h.2.2.1 h.2.2.2
theorem q8a (h : ∃ x y z, D0 x y z /\ ∃ w, F0 x y z w /\ F1 x y z w) (k : ∀ x y z, D0 x y z -> ∀ w, F0 x y z w -> F1 x y z w -> P) : P := h.elim fun x h => h.elim fun y h => h.elim fun z h => h.2.elim fun w h' => k x y z h.1 w h'.1 h'.2
theorem qd0 (h : ∃ x y z w, F0 x y z w /\ F1 x y z w /\ F2 x y z w) (k : ∀ x y z w, F0 x y z w -> F1 x y z w -> F2 x y z w -> P) : P := h.elim fun x h => h.elim fun y h => h.elim fun z h => h.elim fun w h => k x y z w h.1 h.2.1 h.2.2
theorem q63 (h : A0 /\ ∃ x y z, D0 x y z /\ D1 x y z /\ D2 x y z /\ D3 x y z) (k : A0 -> ∀ x y z, D0 x y z -> D1 x y z -> D2 x y z -> D3 x y z -> P) : P := h.2.elim fun x h' => h'.elim fun y h' => h'.elim fun z h' => k h.1 x y z h'.1 h'.2.1 h'.2.2.1 h'.2.2.2
theorem q00 (h : ∃ x y, C0 x y /\ C1 x y /\ C2 x y /\ C3 x y /\ C4 x y /\ C5 x y) (k : ∀ x y, C0 x y -> C1 x y -> C2 x y -> C3 x y -> C4 x y -> C5 x y -> P) : P := h.elim fun x h => h.elim fun y h => k x y h.1 h.2.1 h.2.2.1 h.2.2.2.1 h.2.2.2.2.1 h.2.2.2.2.2
theorem qa6 (h : ∃ x y z w, F0 x y z w /\ F1 x y z w /\ F2 x y z w /\ F3 x y z w) (k : ∀ x y z w, F0 x y z w -> F1 x y z w -> F2 x y z w -> F3 x y z w -> P) : P := h.elim fun x h => h.elim fun y h => h.elim fun z h => h.elim fun w h => k x y z w h.1 h.2.1 h.2.2.1 h.2.2.2
theorem q32 (h : ∃ x y, C0 x y /\ C1 x y /\ C2 x y /\ C3 x y /\ C4 x y /\ C5 x y /\ C6 x y) (k : ∀ x y, C0 x y -> C1 x y -> C2 x y -> C3 x y -> C4 x y -> C5 x y -> C6 x y -> P) : P := h.elim fun x h => h.elim fun y h => k x y h.1 h.2.1 h.2.2.1 h.2.2.2.1 h.2.2.2.2.1 h.2.2.2.2.2.1 h.2.2.2.2.2.2
theorem q9e (h : ∃ x y z, D0 x y z /\ D1 x y z /\ D2 x y z /\ D3 x y z /\ D4 x y z /\ D5 x y z) (k : ∀ x y z, D0 x y z -> D1 x y z -> D2 x y z -> D3 x y z -> D4 x y z -> D5 x y z -> P) : P := h.elim fun x h => h.elim fun y h => h.elim fun z h => k x y z h.1 h.2.1 h.2.2.1 h.2.2.2.1 h.2.2.2.2.1 h.2.2.2.2.2
theorem q54 (h : ∃ x y z w, F0 x y z w /\ F1 x y z w /\ F2 x y z w /\ F3 x y z w /\ F4 x y z w) (k : ∀ x y z w, F0 x y z w -> F1 x y z w -> F2 x y z w -> F3 x y z w -> F4 x y z w -> P) : P := h.elim fun x h => h.elim fun y h => h.elim fun z h => h.elim fun w h => k x y z w h.1 h.2.1 h.2.2.1 h.2.2.2.1 h.2.2.2.2
theorem q78 (h : ∃ x, B0 x /\ B1 x /\ B2 x /\ B3 x /\ ∃ y, C0 x y /\ C1 x y /\ C2 x y /\ C3 x y) (k : ∀ x, B0 x -> B1 x -> B2 x -> B3 x -> ∀ y, C0 x y -> C1 x y -> C2 x y -> C3 x y -> P) : P := h.elim fun x h => h.2.2.2.2.elim fun y h' => k x h.1 h.2.1 h.2.2.1 h.2.2.2.1 y h'.1 h'.2.1 h'.2.2.1 h'.2.2.2
theorem q7r (h : ∃ x y, C0 x y /\ C1 x y /\ C2 x y /\ C3 x y /\ C4 x y /\ C5 x y /\ C6 x y /\ C7 x y) (k : ∀ x y, C0 x y -> C1 x y -> C2 x y -> C3 x y -> C4 x y -> C5 x y -> C6 x y -> C7 x y -> P) : P := h.elim fun x h => h.elim fun y h => k x y h.1 h.2.1 h.2.2.1 h.2.2.2.1 h.2.2.2.2.1 h.2.2.2.2.2.1 h.2.2.2.2.2.2.1 h.2.2.2.2.2.2.2
theorem q7c (h : ∃ x y z, D0 x y z /\ D1 x y z /\ D2 x y z /\ D3 x y z /\ D4 x y z /\ D5 x y z /\ D6 x y z) (k : ∀ x y z, D0 x y z -> D1 x y z -> D2 x y z -> D3 x y z -> D4 x y z -> D5 x y z -> D6 x y z -> P) : P := h.elim fun x h => h.elim fun y h => h.elim fun z h => k x y z h.1 h.2.1 h.2.2.1 h.2.2.2.1 h.2.2.2.2.1 h.2.2.2.2.2.1 h.2.2.2.2.2.2
theorem q48 (h : ∃ x y z w, F0 x y z w /\ F1 x y z w /\ F2 x y z w /\ F3 x y z w /\ F4 x y z w /\ F5 x y z w) (k : ∀ x y z w, F0 x y z w -> F1 x y z w -> F2 x y z w -> F3 x y z w -> F4 x y z w -> F5 x y z w -> P) : P := h.elim fun x h => h.elim fun y h => h.elim fun z h => h.elim fun w h => k x y z w h.1 h.2.1 h.2.2.1 h.2.2.2.1 h.2.2.2.2.1 h.2.2.2.2.2
theorem q2k (h : ∃ x y z w v u, H0 x y z w v u /\ H1 x y z w v u /\ H2 x y z w v u /\ H3 x y z w v u) (k : ∀ x y z w v u, H0 x y z w v u -> H1 x y z w v u -> H2 x y z w v u -> H3 x y z w v u -> P) : P := h.elim fun x h => h.elim fun y h => h.elim fun z h => h.elim fun w h => h.elim fun v h => h.elim fun u h => k x y z w v u h.1 h.2.1 h.2.2.1 h.2.2.2
theorem q6v (h : ∃ x y, C0 x y /\ C1 x y /\ C2 x y /\ C3 x y /\ C4 x y /\ C5 x y /\ C6 x y /\ C7 x y /\ C8 x y) (k : ∀ x y, C0 x y -> C1 x y -> C2 x y -> C3 x y -> C4 x y -> C5 x y -> C6 x y -> C7 x y -> C8 x y -> P) : P := h.elim fun x h => h.elim fun y h => k x y h.1 h.2.1 h.2.2.1 h.2.2.2.1 h.2.2.2.2.1 h.2.2.2.2.2.1 h.2.2.2.2.2.2.1 h.2.2.2.2.2.2.2.1 h.2.2.2.2.2.2.2.2
theorem q3n (h : ∃ x y z, D0 x y z /\ D1 x y z /\ D2 x y z /\ D3 x y z /\ D4 x y z /\ D5 x y z /\ D6 x y z /\ D7 x y z) (k : ∀ x y z, D0 x y z -> D1 x y z -> D2 x y z -> D3 x y z -> D4 x y z -> D5 x y z -> D6 x y z -> D7 x y z -> P) : P := h.elim fun x h => h.elim fun y h => h.elim fun z h => k x y z h.1 h.2.1 h.2.2.1 h.2.2.2.1 h.2.2.2.2.1 h.2.2.2.2.2.1 h.2.2.2.2.2.2.1 h.2.2.2.2.2.2.2
theorem q3p (h : ∃ x y z w v, G0 x y z w v /\ G1 x y z w v /\ G2 x y z w v /\ G3 x y z w v /\ G4 x y z w v /\ G5 x y z w v) (k : ∀ x y z w v, G0 x y z w v -> G1 x y z w v -> G2 x y z w v -> G3 x y z w v -> G4 x y z w v -> G5 x y z w v -> P) : P := h.elim fun x h => h.elim fun y h => h.elim fun z h => h.elim fun w h => h.elim fun v h => k x y z w v h.1 h.2.1 h.2.2.1 h.2.2.2.1 h.2.2.2.2.1 h.2.2.2.2.2
theorem q6b (h : ∃ x y z w v u, H0 x y z w v u /\ H1 x y z w v u /\ H2 x y z w v u /\ H3 x y z w v u /\ H4 x y z w v u) (k : ∀ x y z w v u, H0 x y z w v u -> H1 x y z w v u -> H2 x y z w v u -> H3 x y z w v u -> H4 x y z w v u -> P) : P := h.elim fun x h => h.elim fun y h => h.elim fun z h => h.elim fun w h => h.elim fun v h => h.elim fun u h => k x y z w v u h.1 h.2.1 h.2.2.1 h.2.2.2.1 h.2.2.2.2
theorem q5j (h : A0 /\ ∃ x y, C0 x y /\ ∃ z w, F0 x y z w /\ F1 x y z w /\ F2 x y z w /\ F3 x y z w /\ F4 x y z w /\ F5 x y z w) (k : A0 -> ∀ x y, C0 x y -> ∀ z w, F0 x y z w -> F1 x y z w -> F2 x y z w -> F3 x y z w -> F4 x y z w -> F5 x y z w -> P) : P := h.2.elim fun x h' => h'.elim fun y h' => h'.2.elim fun z h'' => h''.elim fun w h'' => k h.1 x y h'.1 z w h''.1 h''.2.1 h''.2.2.1 h''.2.2.2.1 h''.2.2.2.2.1 h''.2.2.2.2.2
theorem q5w (h : ∃ x y z w v, G0 x y z w v /\ G1 x y z w v /\ G2 x y z w v /\ G3 x y z w v /\ G4 x y z w v /\ G5 x y z w v /\ G6 x y z w v) (k : ∀ x y z w v, G0 x y z w v -> G1 x y z w v -> G2 x y z w v -> G3 x y z w v -> G4 x y z w v -> G5 x y z w v -> G6 x y z w v -> P) : P := h.elim fun x h => h.elim fun y h => h.elim fun z h => h.elim fun w h => h.elim fun v h => k x y z w v h.1 h.2.1 h.2.2.1 h.2.2.2.1 h.2.2.2.2.1 h.2.2.2.2.2.1 h.2.2.2.2.2.2
theorem q5o (h : ∃ x y z w v u, H0 x y z w v u /\ H1 x y z w v u /\ H2 x y z w v u /\ H3 x y z w v u /\ H4 x y z w v u /\ H5 x y z w v u) (k : ∀ x y z w v u, H0 x y z w v u -> H1 x y z w v u -> H2 x y z w v u -> H3 x y z w v u -> H4 x y z w v u -> H5 x y z w v u -> P) : P := h.elim fun x h => h.elim fun y h => h.elim fun z h => h.elim fun w h => h.elim fun v h => h.elim fun u h => k x y z w v u h.1 h.2.1 h.2.2.1 h.2.2.2.1 h.2.2.2.2.1 h.2.2.2.2.2
theorem q4q (h : A0 /\ ∃ x y z w v, G0 x y z w v /\ G1 x y z w v /\ G2 x y z w v /\ G3 x y z w v /\ G4 x y z w v /\ G5 x y z w v /\ G6 x y z w v) (k : A0 -> ∀ x y z w v, G0 x y z w v -> G1 x y z w v -> G2 x y z w v -> G3 x y z w v -> G4 x y z w v -> G5 x y z w v -> G6 x y z w v -> P) : P := h.2.elim fun x h' => h'.elim fun y h' => h'.elim fun z h' => h'.elim fun w h' => h'.elim fun v h' => k h.1 x y z w v h'.1 h'.2.1 h'.2.2.1 h'.2.2.2.1 h'.2.2.2.2.1 h'.2.2.2.2.2.1 h'.2.2.2.2.2.2
theorem q2g (h : ∃ x y z w v, G0 x y z w v /\ G1 x y z w v /\ G2 x y z w v /\ G3 x y z w v /\ G4 x y z w v /\ G5 x y z w v /\ G6 x y z w v /\ G7 x y z w v) (k : ∀ x y z w v, G0 x y z w v -> G1 x y z w v -> G2 x y z w v -> G3 x y z w v -> G4 x y z w v -> G5 x y z w v -> G6 x y z w v -> G7 x y z w v -> P) : P := h.elim fun x h => h.elim fun y h => h.elim fun z h => h.elim fun w h => h.elim fun v h => k x y z w v h.1 h.2.1 h.2.2.1 h.2.2.2.1 h.2.2.2.2.1 h.2.2.2.2.2.1 h.2.2.2.2.2.2.1 h.2.2.2.2.2.2.2
theorem q2f (h : ∃ x y z w v u, H0 x y z w v u /\ H1 x y z w v u /\ H2 x y z w v u /\ H3 x y z w v u /\ H4 x y z w v u /\ H5 x y z w v u /\ H6 x y z w v u) (k : ∀ x y z w v u, H0 x y z w v u -> H1 x y z w v u -> H2 x y z w v u -> H3 x y z w v u -> H4 x y z w v u -> H5 x y z w v u -> H6 x y z w v u -> P) : P := h.elim fun x h => h.elim fun y h => h.elim fun z h => h.elim fun w h => h.elim fun v h => h.elim fun u h => k x y z w v u h.1 h.2.1 h.2.2.1 h.2.2.2.1 h.2.2.2.2.1 h.2.2.2.2.2.1 h.2.2.2.2.2.2
theorem q4k (h : A0 /\ ∃ x y z, D0 x y z /\ D1 x y z /\ ∃ w v, G0 x y z w v /\ G1 x y z w v /\ G2 x y z w v /\ G3 x y z w v /\ G4 x y z w v /\ G5 x y z w v) (k : A0 -> ∀ x y z, D0 x y z -> D1 x y z -> ∀ w v, G0 x y z w v -> G1 x y z w v -> G2 x y z w v -> G3 x y z w v -> G4 x y z w v -> G5 x y z w v -> P) : P := h.2.elim fun x h' => h'.elim fun y h' => h'.elim fun z h' => h'.2.2.elim fun w h'' => h''.elim fun v h'' => k h.1 x y z h'.1 h'.2.1 w v h''.1 h''.2.1 h''.2.2.1 h''.2.2.2.1 h''.2.2.2.2.1 h''.2.2.2.2.2
theorem q3r (h : ∃ x y z w v u, H0 x y z w v u /\ H1 x y z w v u /\ H2 x y z w v u /\ H3 x y z w v u /\ H4 x y z w v u /\ H5 x y z w v u /\ H6 x y z w v u /\ H7 x y z w v u /\ H8 x y z w v u) (k : ∀ x y z w v u, H0 x y z w v u -> H1 x y z w v u -> H2 x y z w v u -> H3 x y z w v u -> H4 x y z w v u -> H5 x y z w v u -> H6 x y z w v u -> H7 x y z w v u -> H8 x y z w v u -> P) : P := h.elim fun x h => h.elim fun y h => h.elim fun z h => h.elim fun w h => h.elim fun v h => h.elim fun u h => k x y z w v u h.1 h.2.1 h.2.2.1 h.2.2.2.1 h.2.2.2.2.1 h.2.2.2.2.2.1 h.2.2.2.2.2.2.1 h.2.2.2.2.2.2.2.1 h.2.2.2.2.2.2.2.2
theorem q3v (h : ∃ x y z w v u t s, J0 x y z w v u t s /\ J1 x y z w v u t s /\ J2 x y z w v u t s /\ J3 x y z w v u t s /\ J4 x y z w v u t s /\ J5 x y z w v u t s /\ J6 x y z w v u t s) (k : ∀ x y z w v u t s, J0 x y z w v u t s -> J1 x y z w v u t s -> J2 x y z w v u t s -> J3 x y z w v u t s -> J4 x y z w v u t s -> J5 x y z w v u t s -> J6 x y z w v u t s -> P) : P := h.elim fun x h => h.elim fun y h => h.elim fun z h => h.elim fun w h => h.elim fun v h => h.elim fun u h => h.elim fun t h => h.elim fun s h => k x y z w v u t s h.1 h.2.1 h.2.2.1 h.2.2.2.1 h.2.2.2.2.1 h.2.2.2.2.2.1 h.2.2.2.2.2.2
theorem q38 (h : ∃ x y z w v u, H0 x y z w v u /\ H1 x y z w v u /\ H2 x y z w v u /\ H3 x y z w v u /\ H4 x y z w v u /\ H5 x y z w v u /\ H6 x y z w v u /\ H7 x y z w v u /\ H8 x y z w v u /\ H9 x y z w v u) (k : ∀ x y z w v u, H0 x y z w v u -> H1 x y z w v u -> H2 x y z w v u -> H3 x y z w v u -> H4 x y z w v u -> H5 x y z w v u -> H6 x y z w v u -> H7 x y z w v u -> H8 x y z w v u -> H9 x y z w v u -> P) : P := h.elim fun x h => h.elim fun y h => h.elim fun z h => h.elim fun w h => h.elim fun v h => h.elim fun u h => k x y z w v u h.1 h.2.1 h.2.2.1 h.2.2.2.1 h.2.2.2.2.1 h.2.2.2.2.2.1 h.2.2.2.2.2.2.1 h.2.2.2.2.2.2.2.1 h.2.2.2.2.2.2.2.2.1 h.2.2.2.2.2.2.2.2.2
theorem q2m (h : ∃ x y z w v u, H0 x y z w v u /\ H1 x y z w v u /\ H2 x y z w v u /\ H3 x y z w v u /\ H4 x y z w v u /\ H5 x y z w v u /\ H6 x y z w v u /\ H7 x y z w v u /\ H8 x y z w v u /\ H9 x y z w v u /\ H10 x y z w v u /\ H11 x y z w v u) (k : ∀ x y z w v u, H0 x y z w v u -> H1 x y z w v u -> H2 x y z w v u -> H3 x y z w v u -> H4 x y z w v u -> H5 x y z w v u -> H6 x y z w v u -> H7 x y z w v u -> H8 x y z w v u -> H9 x y z w v u -> H10 x y z w v u -> H11 x y z w v u -> P) : P := h.elim fun x h => h.elim fun y h => h.elim fun z h => h.elim fun w h => h.elim fun v h => h.elim fun u h => k x y z w v u h.1 h.2.1 h.2.2.1 h.2.2.2.1 h.2.2.2.2.1 h.2.2.2.2.2.1 h.2.2.2.2.2.2.1 h.2.2.2.2.2.2.2.1 h.2.2.2.2.2.2.2.2.1 h.2.2.2.2.2.2.2.2.2.1 h.2.2.2.2.2.2.2.2.2.2.1 h.2.2.2.2.2.2.2.2.2.2.2
end
end
end
section
section
section
variable {n0 n1 n2 n3 n4 n5 : Nat} {z0 z1 z2 z3 z4 : Int} {p0 : Prop}
theorem o1 : (-(2 ^ 64)) < 64 := by (constructor <;> omega)
theorem o2 : (0 + 1) <= 16777216 := Nat.succ_pos _
theorem o3 : 0 <= (16777216 + 1) := Nat.zero_le _
theorem o4 : 0 <= 16777216 := Nat.zero_le _
theorem o5 : 1 <= 1 := Nat.lt_add_one _
theorem o9 : 3 <= 3 := Nat.lt_add_one _
theorem o11 (h0 : ((n0 : Nat) : Int) < 1000000) : (((n0 : Nat) : Int) - 1) < 1000000 := by omega
theorem o12 (h0 : (0 < n0) /\ (n0 < 1000)) : (-((n0 : Nat) : Int)) <= (-1) := by lia
theorem o13 (h0 : (0 < n0) /\ (n0 < 1000)) : 0 < ((n0 : Nat) : Int) := by lia
theorem o16 (h0 : (1 <= n0) /\ (n0 <= 18)) : ((n0 : Nat) : Int) <= 1000000 := by lia
theorem o17 (h0 : (1 <= n0) /\ (n0 <= 3)) : n0 < (2 ^ 62) := by lia
theorem o18 (h0 : (1 <= n0) /\ (n0 <= 3)) : ¬ (¬ (0 < n0)) := by lia
theorem o19 (h0 : (n0 + 1) <= 1000) : ((n0 : Nat) : Int) < (2 ^ 63) := by omega
theorem o22 (h0 : (n0 = 59) ∨ ((n0 = 44) ∨ ((n0 = 32) ∨ (n0 = 9)))) : n0 < 64 := by lia
theorem o23 (h0 : 0 < n0) : (0 <= (((n0 : Nat) : Int) - 1)) /\ ((((n0 : Nat) : Int) - 1) < ((n0 : Nat) : Int)) := by lia
theorem o24 (h0 : 0 < n0) : n0 = ((n0 - 1) + 1) := by lia
theorem o26 (h0 : 1 <= n0) (h1 : n0 <= 3) : (1 <= (min n0 n0)) /\ ((min n0 n0) <= 3) := by lia
theorem o28 (h0 : 1 <= n0) : 0 <= (((n0 : Nat) : Int) - 1) := by lia
theorem o29 (h0 : n0 < 1000) : (((n0 : Nat) : Int) < 9223372036854775808) /\ ((n0 = 0) ∨ (((n0 : Nat) : Int) < 9223372036854775808)) := by (constructor <;> omega)
theorem o30 (h0 : n0 < 1000) : ((n0 : Nat) : Int) < 9223372036854775808 := by omega
theorem o33 (h0 : n0 < 63) : ((n0 : Nat) : Int) < (2 ^ 63) := by omega
theorem o35 (h0 : n0 = 0) : n0 < 1 := by (subst h0; omega)
theorem o37 (h0 : n0 <= (2 ^ 64)) : n0 <= (4 * (2 ^ 64)) := Nat.le_trans h0 (by decide)
theorem o40 (h0 : n0 <= 1000) : n0 <= (16777216 + 1) := Nat.le_trans h0 (by decide)
theorem o41 (h0 : n0 <= 1000) : ¬ (((n0 : Nat) : Int) ≥ (2 ^ 63)) := by lia
theorem o42 (h0 : n0 <= 16) : (3 * n0) < 600 := by lia
theorem o43 (h0 : n0 <= 16) : (3 * n0) <= 1000 := by lia
theorem o44 (h0 : n0 <= 16) : (3 * n0) <= 10000 := by lia
theorem o45 (h0 : n0 <= 16) : (3 * n0) <= 48 := by lia
theorem o47 (h0 : n0 <= 3) : n0 < (2 ^ 62) := Nat.lt_of_le_of_lt h0 (by decide)
theorem o57 (h0 : n0 <= 63) : (n0 - 1) <= 1000 := by omega
theorem o58 (h0 : n0 <= 63) : n0 < (2 ^ 62) := Nat.lt_of_le_of_lt h0 (by decide)
theorem o60 (h0 : n0 <= 64) : ¬ (¬ ((((n0 : Nat) : Int) - 7) <= 4000)) := by lia
theorem o61 (h0 : ¬ (((63 : Nat) : Int) < ((n0 : Nat) : Int))) : n0 <= 63 := by lia
theorem o63 (h0 : ¬ (n0 = 0)) : ¬ (n0 < 1) := by lia
theorem o65 : ((((min 6 n0) + 1) + (((((((((0 + 1) + 1) + 1) + 1) + 1) + 1) + 1) + 1) + 1)) <= 16) /\ (0 < (((min 6 n0) + 1) + (((((((((0 + 1) + 1) + 1) + 1) + 1) + 1) + 1) + 1) + 1))) := by lia
theorem o66 : ((((n0 + 1) : Nat) : Int) - 1) = ((n0 : Nat) : Int) := by lia
theorem o67 : ((((n0 + 3) + 1) + 1) + 200) <= (n0 + 300) := by lia
theorem o68 : ((((n0 : Nat) : Int) + 1) - ((n0 : Nat) : Int)) < (2 ^ 64) := by lia
theorem o69 : ((((n0 : Nat) : Int) + 1) - ((n0 : Nat) : Int)) = 1 := by lia
theorem o74 : (((n0 + 3) + 1) + 200) <= (n0 + 300) := by lia
theorem o75 : (((n0 : Nat) : Int) ≠ 0) ↔ (0 < n0) := by lia
theorem o76 : (((¬ ((((n0 + 1) + 1) + 1) = ((n0 + 1) + 1))) /\ (¬ ((((n0 + 1) + 1) + 1) = (n0 + 1)))) /\ (¬ (((n0 + 1) + 1) = (n0 + 1)))) /\ ((n0 < (((n0 + 1) + 1) + 1)) /\ ((n0 < ((n0 + 1) + 1)) /\ (n0 < (n0 + 1)))) := by lia
theorem o78 : ((0 <= ((-1) + (((n0 : Nat) : Int) + 1))) /\ (((-1) + (((n0 : Nat) : Int) + 1)) < (((n0 : Nat) : Int) + 1))) /\ ((Int.toNat ((-1) + (((n0 : Nat) : Int) + 1))) = n0) := by lia
theorem o80 : ((n0 + 3) + 10) <= (n0 + 300) := by lia
theorem o81 : (-((n0 : Nat) : Int)) <= 0 := by lia
theorem o82 : (-(2 ^ 64)) < ((((n0 : Nat) : Int) + 1) - ((n0 : Nat) : Int)) := by lia
theorem o84 : (0 + (((n0 : Nat) : Int) * 1)) = ((n0 : Nat) : Int) := by lia
theorem o85 : (0 + ((n0 + 1) - 0)) <= (n0 + 1) := by lia
theorem o86 : (0 + n0) <= n0 := by lia
theorem o90 : (Int.toNat (((n0 : Nat) : Int) - 1)) = (n0 - 1) := by lia
theorem o92 : (¬ (((n0 + 1) + 1) = (n0 + 1))) /\ ((n0 < ((n0 + 1) + 1)) /\ (n0 < (n0 + 1))) := by lia
theorem o99 : ¬ (((n0 : Nat) : Int) < 0) := by lia
theorem o101 (h0 : ((n0 : Nat) : Int) < ((n1 : Nat) : Int)) (h1 : n1 < n0) : False := by lia
theorem o103 (h0 : (n0 + 1) = (n1 + 1)) : n0 = n1 := by lia
theorem o111 (h0 : (n0 + 20) < n1) : ((n0 + 1) + 10) < n1 := by lia
theorem o112 (h0 : (n0 + 20) < n1) : ((n0 + 1) + 5) < n1 := by lia
theorem o117 (h0 : (n1 + 2) <= 3) : ((((n0 : Nat) : Int) + (((n0 : Nat) : Int) + (((n1 + 2) : Nat) : Int))) / 2) = (((n0 : Nat) : Int) + 1) := by lia
theorem o118 (h0 : 0 < n1) : (((n0 + n1) - 1) + 1) = (n0 + n1) := by lia
theorem o119 (h0 : 0 < n1) : (n0 + (n1 - 1)) = ((n0 + n1) - 1) := by lia
theorem o120 (h0 : 0 < n1) : (n0 - n0) < n1 := by lia
theorem o122 (h0 : 1 <= n0) (h1 : (((n1 : Nat) : Int) + 1) ≠ (((n1 : Nat) : Int) + ((n0 : Nat) : Int))) : n0 = ((n0 - 2) + 2) := by lia
theorem o123 (h0 : 1 <= n0) (h1 : 1 <= n1) : ¬ ((n0 < 1) ∨ (n1 < 1)) := by lia
theorem o125 (h0 : n0 < (n1 + 1)) (h1 : ¬ (n0 = n1)) : n0 < n1 := by lia
theorem o126 (h0 : n0 < 1000) (h1 : n1 = 16777216) : (n0 + 0) <= (n1 + 1) := by lia
theorem o127 (h0 : n0 < 1000) (h1 : n1 = 16777216) : n0 <= n1 := by lia
theorem o128 (h0 : n0 < 100000) (h1 : 100001 <= n1) : (n0 + 1) <= n1 := by omega
theorem o129 (h0 : n0 < 1000000) : (3 * (n0 - n1)) <= 18446744073709551612 := by lia
theorem o130 (h0 : n0 < n1) : ((min (n0 + 1) n1) - n0) = 1 := by lia
theorem o131 (h0 : n0 < n1) : ((min n0 n1) + 1) = (min (n0 + 1) n1) := by lia
theorem o133 (h0 : n0 < n1) : (n0 + (n1 - n0)) <= n1 := by lia
theorem o136 (h0 : n0 < n1) : (n0 <= n1) /\ (¬ ((n1 - n0) = 0)) := by lia
theorem o139 (h0 : n0 < n1) : n0 <= (min n0 n1) := by lia
theorem o141 (h0 : n0 < n1) : ¬ (((n0 : Nat) : Int) = ((n1 : Nat) : Int)) := by lia
theorem o142 (h0 : n0 = (2 * n1)) : n0 <= (2 * n1) := by lia
theorem o143 (h0 : n0 = (n1 + 1)) : n0 <= (n1 + 1) := by lia
theorem o144 (h0 : n0 = (n1 + 1)) : ¬ (((n0 : Nat) : Int) = 0) := by lia
theorem o145 (h0 : n0 ≠ n1) : (n0 < (n1 + 1)) ↔ (n0 < n1) := by lia
theorem o147 (h0 : n0 <= (n1 + 1)) (h1 : ¬ (n0 = (n1 + 1))) : n0 <= n1 := by lia
theorem o148 (h0 : n0 <= 300) : ((n0 + 1) - n1) <= 400 := by omega
theorem o150 (h0 : n0 <= n1) (h1 : ¬ (n0 < n1)) : n0 = n1 := by lia
theorem o151 (h0 : n0 <= n1) : ((1 : Nat) : Int) > (((n0 : Nat) : Int) - ((n1 : Nat) : Int)) := by lia
theorem o152 (h0 : n0 <= n1) : (max 0 (min ((n0 : Nat) : Int) ((n1 : Nat) : Int))) = ((n0 : Nat) : Int) := by lia
theorem o153 (h0 : n0 <= n1) : n0 < ((2 * n1) + 3) := by lia
theorem o156 (h0 : n1 < 100) (h1 : n0 <= n1) : (2 * n0) <= 1000 := by lia
theorem o157 (h0 : n1 < n0) : ((n0 + 1) - (n1 + 1)) < ((n0 + 1) - n1) := by lia
theorem o158 (h0 : n1 < n0) : (min 4294967295 (n0 - n1)) = (((min 4294967295 (n0 - n1)) - 1) + 1) := by lia
theorem o159 (h0 : n1 < n0) : (n0 - (n1 + 1)) < (n0 - n1) := by omega
theorem o160 (h0 : n1 < n0) : 0 < (n0 - n1) := by lia
theorem o161 (h0 : n1 < n0) : ¬ (((1 : Nat) : Int) > (((n0 : Nat) : Int) - ((n1 : Nat) : Int))) := by lia
theorem o163 (h0 : n1 = (n0 + 1)) : n0 < n1 := by lia
theorem o164 (h0 : n1 = (n0 + 1)) : n0 <= n1 := by lia
theorem o165 (h0 : n1 = n0) (h1 : n1 <= 63) : ((n0 - 1) + 1) <= 1000 := by (subst h0; omega)
theorem o167 (h0 : n1 <= 3) (h1 : (n0 + 1) <= n1) : ((n0 : Nat) : Int) < (2 ^ 63) := by omega
theorem o168 (h0 : n1 <= 3) (h1 : n0 < 900) : (n0 + (n1 - 1)) <= 1000 := by omega
theorem o169 (h0 : n1 <= 3) (h1 : n0 = n1) : n0 <= 3 := by lia
theorem o170 (h0 : n1 <= 48) (h1 : n0 <= n1) : n0 <= 500 := by lia
theorem o171 (h0 : n1 <= 63) (h1 : n0 < n1) : ((n0 : Nat) : Int) < (2 ^ 63) := by omega
theorem o174 (h0 : ¬ (((n0 : Nat) : Int) < ((n1 : Nat) : Int))) (h1 : n0 < n1) : False := by lia
theorem o177 (h0 : ¬ (n0 < n1)) (h1 : (n0 - n1) = 0) : n0 = n1 := by lia
theorem o178 (h0 : ¬ (n1 < n0)) : n0 <= (n1 + 1) := by lia
theorem o181 : ((((n0 : Nat) : Int) + 1) + (((n1 + 1) : Nat) : Int)) = (((n0 : Nat) : Int) + (((n1 + 2) : Nat) : Int)) := by lia
theorem o186 : (Int.toNat (((n0 : Nat) : Int) - ((n1 : Nat) : Int))) = (n0 - n1) := by lia
theorem o187 : (Int.toNat (max ((n0 : Nat) : Int) ((n1 : Nat) : Int))) = (max n0 n1) := by omega
theorem o188 : (min n0 n1) <= n0 := by lia
theorem o191 : n0 < (n0 + (n1 + 1)) := by lia
theorem o193 : ¬ ((n0 + (n1 - n0)) < n1) := by omega
theorem o194 (h0 : ((n0 + (n1 + 2)) + 2) < n2) : (((n0 + 1) + (n1 + 1)) + 2) < n2 := by lia
theorem o195 (h0 : ((n0 + (n2 + 2)) + 2) < n1) : (((n0 + 1) + 1) + 2) < n1 := by lia
theorem o196 (h0 : ((n0 + n2) + 2) < n1) : n0 < n1 := by lia
theorem o197 (h0 : ((n2 : Nat) : Int) < ((n2 : Nat) : Int)) : n0 < n1 := by lia
theorem o198 (h0 : (1 <= n1) /\ (n1 <= 3)) (h1 : (n0 + 10) < n2) : (((n0 + 1) + n1) + 2) < n2 := by lia
theorem o199 (h0 : (n0 + (n1 + 1)) <= (n2 + 1)) : ((n0 + 1) + n1) <= (n2 + 1) := by lia
theorem o200 (h0 : (n0 + (n1 + 1)) <= n2) : ((n0 + 1) + n1) <= n2 := by lia
theorem o201 (h0 : (n0 + (n1 + 2)) <= n2) : ((n0 + 1) + (n1 + 1)) <= n2 := by lia
theorem o205 (h0 : (n0 + n1) < n2) : (n0 + (n1 - 1)) < n2 := by lia
theorem o207 (h0 : (n0 - n1) < n2) : n0 < (n1 + n2) := by omega
theorem o210 (h0 : (n2 - n0) < n1) : n0 < (n0 + n1) := by lia
theorem o211 (h0 : 0 < n2) : ((n0 + n1) + n2) ≠ (n0 + n1) := by lia
theorem o212 (h0 : 1 <= n2) (h1 : (n0 + n2) <= n1) : n0 < n1 := by lia
theorem o213 (h0 : n0 < ((n1 + 1) + n2)) : n0 < (n1 + (n2 + 1)) := by lia
theorem o214 (h0 : n0 < 1000) (h1 : n2 = 16777216) (h2 : (n1 + 1) < 1000) : (n0 + (n1 + 1)) <= (n2 + 1) := by lia
theorem o215 (h0 : n0 < 64) (h1 : 64 <= n2) (h2 : n2 = n0) : n0 = n1 := by lia
theorem o216 (h0 : n0 < n1) (h1 : n1 < (n2 + 1)) : (min (n0 + (n1 - n0)) (n2 + 1)) = n1 := by lia
theorem o217 (h0 : n0 < n2) (h1 : n1 <= ((n2 - n0) - 1)) : (n0 + n1) < n2 := by omega
theorem o218 (h0 : n0 < n2) (h1 : n2 = (n1 + 1)) : n0 <= n1 := by lia
theorem o219 (h0 : n0 < n2) (h1 : n2 = n1) : (n0 - (n1 - 1)) = 0 := by lia
theorem o222 (h0 : n0 < n2) : (n0 - n1) <= ((n2 - n1) - 1) := by omega
theorem o223 (h0 : n0 = (min n1 n2)) (h1 : n2 <= n1) : n0 = (min (n1 + 1) n2) := by lia
theorem o224 (h0 : n0 = (n1 - n2)) : (n0 - 1) < (n1 + 1) := by (subst h0; omega)
theorem o225 (h0 : n0 = (n1 - n2)) : n0 < (n1 + 1) := by (subst h0; omega)
theorem o226 (h0 : n0 = (n1 - n2)) : n0 <= n1 := by (subst h0; omega)
theorem o227 (h0 : n0 <= n1) : ((min n0 n1) - n2) = (n0 - n2) := by lia
theorem o228 (h0 : n1 < 100) (h1 : n2 <= n1) (h2 : n0 < n2) : n0 <= 300 := by lia
theorem o229 (h0 : n1 < n2) (h1 : n0 < n1) : (n0 + (n1 - n0)) < n2 := by lia
theorem o230 (h0 : n1 < n2) (h1 : n0 = (n2 - n1)) : 1 <= n0 := by lia
theorem o231 (h0 : n1 = (2 * n2)) (h1 : n0 < n2) : ((2 * n0) + 1) < n1 := by lia
theorem o232 (h0 : n1 = (2 * n2)) (h1 : n0 < n2) : (2 * n0) < n1 := by lia
theorem o233 (h0 : n1 = (n0 + n2)) (h1 : 0 < n2) : n0 < n1 := by lia
theorem o234 (h0 : n1 = n2) (h1 : n0 < n2) : (n0 + 1) <= n1 := by lia
theorem o235 (h0 : n1 = n2) (h1 : n2 = (n0 + 1)) : (n0 + 1) <= n1 := by lia
theorem o236 (h0 : n1 <= 300) (h1 : n0 = (n1 - n2)) : ((n0 : Nat) : Int) < 1000000 := by omega
theorem o237 (h0 : n1 <= 48) (h1 : n2 = (n1 + 1)) (h2 : n0 <= n2) : n0 <= 100 := by lia
theorem o238 (h0 : n1 <= n0) (h1 : n0 < (n1 + n2)) : (n0 - n1) < n2 := by lia
theorem o240 (h0 : n2 < 100) (h1 : (n0 + n1) <= n2) (h2 : 0 < n0) (h3 : 0 < n1) : ((0 < n0) /\ (n0 < 1000)) /\ ((0 < n1) /\ (n1 < 1000)) := by lia
theorem o241 (h0 : n2 < 100000) (h1 : 1000000 <= n1) (h2 : n0 <= n2) : n0 <= n1 := by lia
theorem o242 (h0 : n2 < 1000000) (h1 : n0 <= n2) (h2 : 1000000 <= n1) : n0 <= n1 := by lia
theorem o243 (h0 : n2 < n1) (h1 : n0 < (n2 + (n1 - n2))) : n0 < n1 := by lia
theorem o244 (h0 : n2 = (n0 + 1)) (h1 : (n1 + 1) = n2) : n0 <= n1 := by lia
theorem o245 (h0 : n2 = (n1 + 1)) (h1 : (n0 + 1) < n2) : n0 < n1 := by lia
theorem o246 (h0 : n2 = (n1 + 1)) (h1 : (n0 + 1) = n2) : n0 = n1 := by lia
theorem o247 (h0 : n2 = n0) (h1 : ¬ ((n1 + 1) < n2)) : n0 <= (n1 + 1) := by lia
theorem o248 (h0 : n2 = n1) (h1 : (n0 + 1) < n2) : (n0 + 1) < n1 := by (subst h0; omega)
theorem o249 (h0 : n2 = n1) (h1 : (n0 + 1) < n2) : n0 < (n1 - 1) := by (subst h0; omega)
theorem o250 (h0 : n2 = n1) (h1 : n0 < n2) : n0 < ((n1 - 1) + 1) := by (subst h0; omega)
theorem o251 (h0 : n2 <= (4 * (n1 + 1))) (h1 : n2 = (4 + n0)) : n0 <= (4 * n1) := by lia
theorem o255 : ((n0 + 1) + (n1 + n2)) = ((n1 + 1) + (n0 + n2)) := by lia
theorem o256 : (n0 + (n1 + n2)) <= ((n0 + n1) + n2) := by lia
theorem o257 : (n0 + n1) <= (n0 + (n1 + n2)) := by lia
theorem o258 : n0 <= (n1 + (n0 + n2)) := by lia
theorem o259 : ¬ (((n0 + n1) + n2) < (n0 + n1)) := by lia
theorem o261 (h0 : ((n0 + n1) + n3) < n2) : (n0 + n1) <= n2 := by lia
theorem o262 (h0 : ((n0 + n2) + n3) < n1) : n0 < n1 := by lia
theorem o263 (h0 : ((n2 + n3) + n0) < n1) (h1 : n1 < 4294967295) : n0 <= (min 4294967295 (n1 - (n2 + n3))) := by lia
theorem o265 (h0 : (n0 + (n1 + 2)) <= n3) (h1 : n2 = n3) : ((n0 + 1) + (n1 + 1)) <= n2 := by lia
theorem o266 (h0 : (n0 + n1) < n3) (h1 : n3 <= n2) : ((n0 + n1) - 1) < n2 := by omega
theorem o268 (h0 : (n1 + 1) = ((((n2 + 1) + 1) - 1) + 1)) (h1 : (n0 + (n1 + n3)) = (((n2 + 1) + 1) - 1)) : n0 = 0 := by lia
theorem o269 (h0 : (n1 + 1) = ((((n2 + 1) + 1) - 1) + 1)) (h1 : (n3 + (n1 + n0)) = (((n2 + 1) + 1) - 1)) : n0 = 0 := by lia
theorem o270 (h0 : 0 < n3) : ((n0 + n1) + n2) < ((n0 + (n1 + n2)) + n3) := by lia
theorem o272 (h0 : n0 < n3) (h1 : n3 <= n2) (h2 : n1 <= ((n3 - n0) - 1)) : (n0 + n1) <= n2 := by lia
theorem o273 (h0 : n0 = n1) (h1 : n2 = n3) (h2 : n0 < n2) (h3 : n3 <= n1) : False := by lia
theorem o274 (h0 : n0 <= n2) (h1 : n1 = n3) (h2 : n2 < n3) : n0 < (n1 + 1) := by lia
theorem o275 (h0 : n3 = (n0 - n1)) (h1 : (n0 - (n1 + 1)) < n2) (h2 : ¬ (n2 = n3)) : (n0 - n1) < n2 := by (subst h0; omega)
theorem o276 (h0 : n3 = (n0 - n1)) (h1 : n3 < n2) : (n0 - n1) < n2 := by (subst h0; omega)
theorem o277 (h0 : n3 = (n1 + n2)) (h1 : n0 < n3) : n0 < (n1 + n2) := by (subst h0; omega)
theorem o278 (h0 : (n0 + n1) <= n4) : (n0 + n1) <= (n2 + (n3 + n4)) := by lia
theorem o279 (h0 : (n1 + 1) = ((((n2 + 1) + 1) - 1) + 1)) (h1 : (n3 + (n1 + n4)) = (((n2 + 1) + 1) - 1)) (h2 : n0 <= n4) : n0 = 0 := by lia
theorem o280 (h0 : (n1 + n2) <= n4) : ((min n0 n1) + (n2 + (n1 - (max n0 n3)))) <= (n4 + 1) := by omega
theorem o281 (h0 : n2 < 100000) (h1 : n3 <= n2) (h2 : 1000000 <= n1) (h3 : n4 <= (2 * n3)) (h4 : n0 = n4) : (n0 + 1) <= n1 := by lia
theorem o282 (h0 : 0 < n4) (h1 : n3 = (n0 + (n1 + (n2 + (n4 + n5))))) : ((n0 + n1) + n2) < n3 := by lia
theorem o283 (h0 : n1 < 1000000) (h1 : n1 = (n2 + (n0 + (n3 + (n4 + n5))))) : ((3 * n0) + 7) <= (2 ^ 64) := by lia
theorem o284 (h0 : (((n0 : Nat) : Int) - ((n1 : Nat) : Int)) > z2) : (0 + (((n0 : Nat) : Int) - ((n1 : Nat) : Int))) > z2 := by lia
theorem o285 (h0 : z2 < 1000000) (h1 : (((n0 : Nat) : Int) + ((n1 : Nat) : Int)) <= z2) : ((n0 + (n1 + 0)) + (2 * 0)) <= 16777216 := by lia
theorem o286 (h0 : z2 < 1000000) (h1 : ((n0 : Nat) : Int) = z2) : (n0 + (n1 * 0)) <= 16777216 := by lia
theorem o287 (h0 : ¬ ((((n0 : Nat) : Int) - ((n1 : Nat) : Int)) > z2)) : ¬ ((0 + (((n0 : Nat) : Int) - ((n1 : Nat) : Int))) > z2) := by lia
theorem o288 (h0 : (0 <= z2) /\ ((z2 + z3) < 1000000)) (h1 : (((n0 : Nat) : Int) + ((n1 : Nat) : Int)) <= z3) : (((n0 : Nat) : Int) + ((n1 : Nat) : Int)) < 1000000 := by omega
theorem o289 (h0 : (n0 <= 6) ↔ (z1 < 64)) (h1 : (n0 <= 12) ↔ (z1 < 4096)) (h2 : ¬ (z1 < 64)) (h3 : z1 < 4096) : (((((n0 : Nat) : Int) + 6) - 1) / 6) = 2 := by lia
theorem o290 (h0 : (n0 <= 7) ↔ (z1 < 128)) (h1 : (n0 <= 14) ↔ (z1 < 16384)) (h2 : ¬ (z1 < 128)) (h3 : z1 < 16384) : (((((n0 : Nat) : Int) + 7) - 1) / 7) = 2 := by lia
theorem o291 (h0 : (z1 = 6) ∨ (z1 = 7)) (h1 : n0 <= 18) : ((((n0 : Nat) : Int) + z1) - 1) < 1000 := by lia
theorem o292 (h0 : (z1 = 6) ∨ (z1 = 7)) : 0 <= ((((n0 : Nat) : Int) + z1) - 1) := by lia
theorem o293 (h0 : n0 <= 18) (h1 : (n0 <= 12) ↔ (z1 < 4096)) (h2 : ¬ (z1 < 4096)) : (((((n0 : Nat) : Int) + 6) - 1) / 6) = 3 := by lia
theorem o294 (h0 : n0 <= 18) (h1 : (n0 <= 14) ↔ (z1 < 16384)) (h2 : ¬ (z1 < 16384)) : (((((n0 : Nat) : Int) + 7) - 1) / 7) = 3 := by lia
theorem o295 (h0 : ¬ (n0 <= 0)) (h1 : (n0 <= 6) ↔ (z1 < 64)) (h2 : z1 < 64) : (((((n0 : Nat) : Int) + 6) - 1) / 6) = 1 := by lia
theorem o296 (h0 : ¬ (n0 <= 0)) (h1 : (n0 <= 7) ↔ (z1 < 128)) (h2 : z1 < 128) : (((((n0 : Nat) : Int) + 7) - 1) / 7) = 1 := by lia
theorem o297 (h0 : (n0 + 10) < n2) (h1 : z1 <= 3) : (((n0 + 1) + (Int.toNat z1)) + 2) < n2 := by lia
theorem o299 (h0 : (0 <= z0) /\ (z0 < 100000000)) : (-(2 ^ 64)) < z0 := by lia
theorem o300 (h0 : (0 <= z0) /\ (z0 < 100000000)) : z0 < (2 ^ 64) := by lia
theorem o303 (h0 : (0 <= z0) /\ (z0 < 262144)) (h1 : z0 < 4096) : (64 <= ((z0 / 64) + 64)) /\ (((z0 / 64) + 64) < 128) := by lia
theorem o307 (h0 : (0 <= z0) /\ (z0 < 262144)) : (0 <= (64 * (z0 / 64))) /\ ((64 * (z0 / 64)) < 262144) := by lia
theorem o308 (h0 : (0 <= z0) /\ (z0 < 262144)) : (z0 / 64) < 4096 := by lia
theorem o309 (h0 : (0 <= z0) /\ (z0 < 262144)) : 0 <= (z0 / 64) := by lia
theorem o312 (h0 : (1 <= z0) /\ (z0 <= 3)) : (z0 = 1) ∨ ((z0 = 2) ∨ (z0 = 3)) := by lia
theorem o313 (h0 : (64 <= z0) /\ (z0 < 128)) : (Int.toNat z0) < 128 := by lia
theorem o314 (h0 : (64 <= z0) /\ (z0 < 128)) : 64 <= (Int.toNat z0) := by lia
theorem o315 (h0 : (64 <= z0) /\ (z0 < 128)) : ¬ ((Int.toNat z0) = 32) := by lia
theorem o316 (h0 : (64 <= z0) /\ (z0 < 128)) : ¬ ((Int.toNat z0) = 9) := by lia
theorem o317 (h0 : (Int.toNat z0) = 128) (h1 : (0 <= z0) /\ (z0 < 128)) : False := by lia
theorem o318 (h0 : (z0 = 6) ∨ (z0 = 7)) : (Int.natAbs z0) < 1073741824 := by omega
theorem o319 (h0 : (z0 = 6) ∨ (z0 = 7)) : (Int.toNat z0) <= 18 := by lia
theorem o320 (h0 : (z0 = 6) ∨ (z0 = 7)) : 0 < z0 := by lia
theorem o321 (h0 : (z0 = 6) ∨ (z0 = 7)) : 0 <= ((((0 : Nat) : Int) + z0) - 1) := by lia
theorem o322 (h0 : (z0 = 6) ∨ (z0 = 7)) : 0 <= z0 := by lia
theorem o323 (h0 : (z0 = 6) ∨ (z0 = 7)) : 1 <= (Int.toNat z0) := by lia
theorem o324 (h0 : 0 < z0) (h1 : (Int.natAbs z0) < 1) : False := by omega
theorem o325 (h0 : 0 < z0) (h1 : z0 < 128) : (0 <= z0) /\ (z0 < 128) := by lia
theorem o326 (h0 : 0 < z0) (h1 : z0 < 128) : (Int.natAbs z0) < (2 ^ 7) := by omega
theorem o327 (h0 : 0 < z0) (h1 : z0 < 16384) : (Int.natAbs z0) < (2 ^ 14) := by omega
theorem o328 (h0 : 0 < z0) (h1 : z0 < 262144) : (Int.natAbs z0) < (2 ^ 18) := by omega
theorem o329 (h0 : 0 < z0) (h1 : z0 < 4096) : (Int.natAbs z0) < (2 ^ 12) := by omega
theorem o330 (h0 : 0 < z0) (h1 : z0 < 64) : (Int.natAbs z0) < (2 ^ 6) := by omega
theorem o331 (h0 : 0 < z0) : (Int.toNat (z0 / 64)) < (Int.toNat z0) := by lia
theorem o334 (h0 : 0 < z0) : ¬ (z0 < 0) := by lia
theorem o336 (h0 : 0 <= z0) (h1 : z0 < 262144) : (Int.natAbs z0) < (2 ^ 18) := by lia
theorem o338 (h0 : 0 <= z0) (h1 : z0 < 5) : (z0 = 0) ∨ ((z0 = 1) ∨ ((z0 = 2) ∨ ((z0 = 3) ∨ (z0 = 4)))) := by lia
theorem o339 (h0 : 0 <= z0) (h1 : z0 ≠ 0) : 0 < z0 := by lia
theorem o341 (h0 : 0 <= z0) : (-(2 ^ 63)) <= z0 := Int.le_trans (by decide) h0
theorem o342 (h0 : 0 <= z0) : (-(2 ^ 64)) < z0 := Int.lt_of_lt_of_le (by decide) h0
theorem o344 (h0 : 1 <= z0) : 1 <= (Int.toNat z0) := by lia
theorem o347 (h0 : z0 < 1000) : (1 * (Int.toNat z0)) <= (2 ^ 24) := by lia
theorem o348 (h0 : z0 < 1000) : z0 < (2 ^ 63) := Int.lt_of_lt_of_le h0 (by decide)
theorem o349 (h0 : z0 < 1000000) : z0 < (2 ^ 63) := Int.lt_of_lt_of_le h0 (by decide)
theorem o350 (h0 : z0 < 1000000) : z0 < (2 ^ 64) := Int.lt_of_lt_of_le h0 (by decide)
theorem o351 (h0 : z0 < 128) : z0 <= 1000 := by lia
theorem o352 (h0 : z0 < 262144) : z0 < (2 ^ 64) := Int.lt_of_lt_of_le h0 (by decide)
theorem o353 (h0 : z0 < 4096) : (64 * (z0 / 64)) < 4096 := by lia
theorem o354 (h0 : z0 < 4096) : (z0 / 64) < 4096 := by lia
theorem o355 (h0 : z0 < 64) : (64 * (z0 / 64)) < 64 := by lia
theorem o356 (h0 : z0 < 64) : z0 < (2 ^ 64) := Int.lt_of_lt_of_le h0 (by decide)
theorem o357 (h0 : z0 > 0) (h1 : z0 = 0) : False := by lia
theorem o358 (h0 : z0 <= 3) : (Int.toNat z0) <= 3 := by lia
theorem o359 (h0 : ¬ (z0 < 4096)) : ¬ ((64 * (z0 / 64)) < 4096) := by lia
theorem o360 (h0 : ¬ (z0 < 64)) : ¬ ((64 * (z0 / 64)) < 64) := by lia
theorem o361 : (((((((((0 * 128) + ((z0 / 128) / 128)) % 64) * 128) + ((z0 / 128) % 128)) % 64) * 128) + (z0 % 128)) % 64) = (z0 % 64) := by lia
theorem o362 : (((((((0 * 128) + ((z0 / 128) / 128)) / 64) * 128) + ((((((0 * 128) + ((z0 / 128) / 128)) % 64) * 128) + ((z0 / 128) % 128)) / 64)) * 128) + (((((((((0 * 128) + ((z0 / 128) / 128)) % 64) * 128) + ((z0 / 128) % 128)) % 64) * 128) + (z0 % 128)) / 64)) = (z0 / 64) := by lia
theorem o363 : ((((((0 * 128) + (z0 / 128)) % 64) * 128) + (z0 % 128)) % 64) = (z0 % 64) := by lia
theorem o364 : (((((0 * 128) + (z0 / 128)) / 64) * 128) + ((((((0 * 128) + (z0 / 128)) % 64) * 128) + (z0 % 128)) / 64)) = (z0 / 64) := by lia
theorem o365 : ((((0 : Nat) : Int) + z0) - 1) < z0 := by lia
theorem o366 : (((0 * 128) + z0) % 64) = (z0 % 64) := by lia
theorem o367 : (((0 * 128) + z0) / 64) = (z0 / 64) := by lia
theorem o369 : (((Int.toNat (z0 % 64)) : Nat) : Int) = (z0 % 64) := by lia
theorem o371 : ((64 * (z0 / 64)) % 64) = 0 := by lia
theorem o372 : ((64 * (z0 / 64)) / 64) = (z0 / 64) := by lia
theorem o373 : ((Int.toNat z0) = 32) ↔ (32 = z0) := by lia
theorem o374 : ((Int.toNat z0) = 9) ↔ (9 = z0) := by lia
theorem o375 : ((z0 % 64) % 64) = (z0 % 64) := by lia
theorem o376 : (0 + (Int.toNat z0)) <= (Int.toNat z0) := by lia
theorem o379 : (0 <= (z0 % 64)) /\ ((z0 % 64) < 128) := by lia
theorem o380 : (0 <= (z0 % 64)) /\ ((z0 % 64) < 262144) := by lia
theorem o384 : ¬ (z0 < z0) := by lia
theorem o385 (h0 : n1 <= 48) (h1 : z0 <= ((n1 : Nat) : Int)) : z0 <= 48 := by lia
theorem o386 (h0 : z0 < ((n1 : Nat) : Int)) (h1 : n1 < (2 ^ 62)) : z0 < (2 ^ 63) := by lia
theorem o387 (h0 : (((n1 : Nat) : Int) - ((n2 : Nat) : Int)) > (z3 - z0)) : (z0 + (((n1 : Nat) : Int) - ((n2 : Nat) : Int))) > z3 := by lia
theorem o388 (h0 : ¬ ((((n1 : Nat) : Int) - ((n2 : Nat) : Int)) > (z3 - z0))) : ¬ ((z0 + (((n1 : Nat) : Int) - ((n2 : Nat) : Int))) > z3) := by lia
theorem o389 (h0 : (0 <= z0) /\ ((z0 + z1) < 100000)) : (z0 + z1) < 1000000 := by lia
theorem o390 (h0 : (0 <= z0) /\ ((z0 + z1) < 1000000)) (h1 : 0 < z1) : 0 < (z0 + z1) := by omega
theorem o391 (h0 : (0 <= z0) /\ ((z0 + z1) < 1000000)) : (z0 + z1) < (2 ^ 63) := by lia
theorem o392 (h0 : (0 <= z1) /\ ((z1 + z0) < 100000)) : z0 < 1000000 := by lia
theorem o393 (h0 : (0 <= z1) /\ (z1 < 128)) (h1 : 0 <= z0) : 0 <= ((z0 * 128) + z1) := by lia
theorem o394 (h0 : (0 <= z1) /\ (z1 < 128)) (h1 : z0 < 64) : ((z0 * 128) + z1) < 1000000 := by lia
theorem o395 (h0 : (0 <= z1) /\ (z1 < 262144)) (h1 : (0 <= z0) /\ (z0 < 262144)) : (0 <= ((z0 * 128) + z1)) /\ (((z0 * 128) + z1) < 100000000) := by lia
theorem o398 (h0 : 0 <= z0) (h1 : z0 < 64) (h2 : (0 <= z1) /\ (z1 < 128)) : (0 <= (((z0 * 128) + z1) / 64)) /\ ((((z0 * 128) + z1) / 64) < 262144) := by lia
theorem o400 (h0 : 0 <= z1) (h1 : 0 < z0) : 0 < (z0 + z1) := by lia
theorem o401 (h0 : 0 <= z1) (h1 : z1 = z0) : 0 <= z0 := by lia
theorem o402 (h0 : 0 <= z1) : z0 <= (z0 + z1) := by lia
theorem o403 (h0 : 0 <= z1) : z0 <= (z1 + z0) := by lia
theorem o405 (h0 : z1 < 1000) (h1 : z1 = z0) : (Int.toNat z0) < (2 ^ 62) := by lia
theorem o406 (h0 : z1 < z0) : ¬ ((-z0) = (-z1)) := by lia
theorem o407 (h0 : z1 > 0) : (z0 - z1) < z0 := by lia
theorem o408 (h0 : ¬ ((-z0) < (-z1))) (h1 : z1 < z0) : False := by lia
theorem o410 (h0 : ¬ (z1 < z0)) (h1 : ¬ (z0 = z1)) : z0 < z1 := by lia
theorem o411 (h0 : ¬ (z1 > 0)) : ¬ ((z0 - z1) < z0) := by lia
theorem o412 : (((z0 * 128) + z1) % 64) < 64 := Int.emod_lt_of_pos _ (by decide)
theorem o413 : 0 <= (((z0 * 128) + z1) % 64) := Int.emod_nonneg _ (by decide)
theorem o414 (h0 : (0 <= z0) /\ (((z0 + z1) + z2) < 100000)) : (z0 + (z1 + z2)) < 100000 := by lia
theorem o415 (h0 : (0 <= z0) /\ ((z0 + z2) < 100000)) (h1 : z1 = z2) : (z0 + z1) < (2 ^ 63) := by lia
theorem o416 (h0 : (0 <= z2) /\ (z2 < 4)) (h1 : (z0 = z2) ∨ (z0 = 0)) (h2 : z1 <= 48) : (0 <= z0) /\ ((z0 + z1) < 10000) := by lia
theorem o418 (h0 : n3 < 100) (h1 : z1 <= z4) (h2 : (0 <= z0) /\ (z0 < 100)) (h3 : (z4 + z2) <= ((n3 : Nat) : Int)) : ((z0 + z1) + z2) < 100000 := by lia
theorem o419 (h0 : (0 <= z0) /\ (((z0 + z2) + z3) < 100000)) (h1 : 0 <= z1) : 0 <= (z0 + z1) := by lia
theorem o420 (h0 : (0 <= z0) /\ (((z0 + z2) + z3) < 100000)) (h1 : z1 = (z2 + z3)) : (z0 + z1) < (2 ^ 63) := by lia
theorem o421 (h0 : (0 <= z0) /\ (((z0 + z2) + z3) < 100000)) (h1 : z1 = (z2 + z3)) : (z0 + z1) < 1000000 := by lia
theorem o422 (h0 : (0 <= z0) /\ ((z0 + z2) < 1000000)) (h1 : (0 <= z1) /\ (z1 <= z3)) (h2 : z2 = z3) : (z0 + z1) < 1000000 := by lia
theorem o423 (h0 : (0 <= z0) /\ ((z0 + z2) < 1000000)) (h1 : (0 <= z1) /\ (z1 <= z3)) : 0 <= (z0 + z1) := by lia
theorem o424 (h0 : (0 <= z1) /\ (((z1 + z2) + z3) < 100000)) (h1 : z0 = (z2 + z3)) : z0 < 1000000 := by lia
theorem o425 (h0 : (z0 + z4) = (z2 + z3)) (h1 : (z1 + 1) = z4) : ((z0 + 1) + z1) = (z2 + z3) := by lia
end
end
end
section
open PySem PySem.W PyProof.Rows PySem.Calls
theorem q1q {d : Addr} {l : List (Addr × Obj)} (h : AllLt d l) : ∀ p ∈ l, p.1 ≠ d := by
 induction l with
 | nil => intro p hp; cases hp
 | cons q r ih =>
  intro p hp
  rcases List.mem_cons.mp hp with e | e
  ·rw [e]; exact Nat.ne_of_lt h.1
  ·exact ih h.2 p e
theorem q6i (a k : Nat) : a &&& (a / 2 ^ k * 2 ^ k) = a / 2 ^ k * 2 ^ k := by
 apply Nat.eq_of_testBit_eq
 intro i
 rw [Nat.testBit_and, Nat.testBit_mul_two_pow, Nat.testBit_div_two_pow]
 by_cases h : k <= i
 ·have e : i - k + k = i := by exact Nat.sub_add_cancel h
  simp [h, e]
 ·simp [h]
theorem q3h (a b : Nat) : Builtin.bitAnd (a : Int) (b : Int) = ((a &&& b : Nat) : Int) := by
 unfold Builtin.bitAnd
 have h1 : decide (0 <= (a : Int)) = true := by simp
 have h2 : decide (0 <= (b : Int)) = true := by simp
 rw [h1, h2]
 simp
theorem xor_low {x : Int} (hx : 0 <= x) (k : Nat) : Builtin.bitXor x (x.fdiv (2 ^ k) * 2 ^ k) = x % 2 ^ k := by
 (refine E_e (Int.eq_ofNat_of_zero_le hx) fun a z1z => ?_; subst z1z)
 have e : ((a : Int).fdiv (2 ^ k) * 2 ^ k) = ((a / 2 ^ k * 2 ^ k : Nat) : Int) := by
  rw [Int.fdiv_eq_ediv_of_nonneg _ (Int.le_of_lt (Int.pow_pos (by decide)))]
  simp [Int.natCast_ediv, Int.natCast_mul, Int.natCast_pow]
 rw [e, PyProof.Rows.bitXor_and, q3h, q6i]
 have h : a / 2 ^ k * 2 ^ k + a % 2 ^ k = a := Nat.div_add_mod' a (2 ^ k)
 have h2 : ((a : Int) % 2 ^ k) = ((a % 2 ^ k : Nat) : Int) := by simp [Int.natCast_emod, Int.natCast_pow]
 rw [h2]
 generalize a / 2 ^ k * 2 ^ k = q at *
 generalize a % 2 ^ k = r at *
 omega
noncomputable def qe4 (i : Nat) : Stmt := (Challenge.pw_un0030_01.main.body).getD i (.Pass ⟨0, 0, 0, 0⟩)
noncomputable def subAt (i : Nat) : Stmt -> Stmt
 | .FunctionDef _ _ b .. => b.getD i (.Pass ⟨0, 0, 0, 0⟩)
 | _ => .Pass ⟨0, 0, 0, 0⟩
noncomputable def dg (n : Nat) (k x : Int) : List Int :=
 if k = 1 then [x] else if k = 2 then [x % 2 ^ n, x / 2 ^ n] else [x % 2 ^ n, x / 2 ^ n % 2 ^ n, x / 2 ^ n / 2 ^ n]
section
section
variable {prog : Program} {w : World} {A₀ A : Around} {s : Shared} {base h₀ : Heap} {outer : List Env} {L : Addr} {m : Str -> Option Value} {env : Env} {own rest : List (Addr × Obj)}
 {R : Result -> Shared -> Prop} {name qual : Str} {params : Arguments} {body : List Stmt} {scope : Scope} {cl : List (Str × Addr)} {dV kV doc pm cdv ct : Value} {an : Option Addr} {fo : Obj} {f : Addr} {args : Args} {binds : List (Str × Value)}
theorem q26 {g : Heap} {v : Value} {s' : Shared} (hg : ∀ p ∈ rest, g.get? p.1 = some p.2) (hr : News h₀ L s.heap rest) {R' : Result -> Shared -> Prop} (hl : LeaveK h₀ L m g R' v s') : News h₀ L s'.heap rest := by
 (refine q1o hl fun L' m' news' F' _ _ => ?_; (try clear hl))
 exact fun p hp => ⟨F'.keep _ _ (hg p hp), (hr p hp).2⟩
theorem q1p (hr : News h₀ L s.heap rest) (hs : ∀ p ∈ rest, ∀ q ∈ own, p.1 ≠ q.1) : ∀ p ∈ rest, (hideAll s.heap (own.map (·.1))).get? p.1 = some p.2 := fun p hp =>
 hideAll_get _ (hr p hp).1 fun h => by
  (refine E_ea (List.mem_map.mp h) fun q hq e => ?_)
  exact hs p hp q hq e.symm
theorem callR (B : Below A₀ base outer h₀) (F : Fr h₀ L s.heap m) (N : News h₀ L s.heap own) (hr : News h₀ L s.heap rest) (hs : ∀ p ∈ rest, ∀ q ∈ own, p.1 ≠ q.1) (hlim : h₀.NoLimit) (hA : A.frames = some (env :: outer)) (hf : env.frame = some L) (hke : env.scope.kind = .function)
  (ho : s.heap.get? f = some fo) (hd : fo.data = .func (fnX name qual params body scope cl dV kV doc pm an cdv ct)) (hcd : s.heap.CodeRec cdv qual) (hroom : A.depth < recursionLimit)
  (hbind : BindsTo s (fnX name qual params body scope cl dV kV doc pm an cdv ct) args binds) (hloc : ∀ y ∈ binds, scope.names.lookup y.1 = some .local)
  (h : ∀ g L' h₁, Fr h₀ L g m -> Fr g L' h₁ (fun y => binds.reverse.lookup y) -> News g L' h₁ own -> Below A base (env :: outer) g -> h₀.StaysIn g -> (∀ p ∈ own, p.1 < L') -> (∀ p ∈ rest, g.get? p.1 = some p.2) →
   wpAny (model prog w) (A.deeper (envX qual scope L' f cdv cl)) (execs body (envX qual scope L' f cdv cl))
    (fun fl s' => LeaveK h₀ L m g (fun r s'' => News h₀ L s''.heap rest -> R r s'') (match fl with | .ret v => v | _ => .none) s')
    (fun e s' => wpAny (model prog w) (A.deeper (envX qual scope L' f cdv cl)) (leaving (envX qual scope L' f cdv cl) e) (fun _ s'' => R (.error e) s'') (fun e' s'' => R (.error e') s'') s')
    { s with heap := h₁, toks := s.toks + binds.length })
  (hcell : ∀ x ∈ scope.names, x.2 ≠ .cell) (hco : scope.isCoroutine = false) (hgen : scope.isGenerator = false) (hk : scope.kind = .function) : codeAny (model prog w) A (.call (.ref f) args) R s := by
 (refine q2e (groundX (R := fun r s' => News h₀ L s'.heap rest -> R r s') B F N hA hf hke) fun FG BG st lv => ?_)
 have kr := q1p hr hs
 refine codeAny_call_def (fd := fnX name qual params body scope cl dV kV doc pm an cdv ct) (body := body) (binds := binds) hroom ho hd (hlim.keeps F.keep) hcd rfl hbind hcell hloc (fun h₁ hns hk₁ => ?_) hco hgen hk
 refine wpAny_mono (h _ s.heap.objs.size h₁ FG ⟨hns, fun b o e => hk₁ b o (of_hideAll _ e), Nat.le_of_eq (hideAll_size _ _)⟩
  (fun p hp => ⟨hk₁ _ _ (N p hp).1, Nat.ne_of_lt (Heap.lt_size (N p hp).1), hideAll_none _ (List.mem_map_of_mem hp)⟩) BG st (fun p hp => Heap.lt_size (N p hp).1) kr) (fun fl s' hl => lv _ _ hl (q26 kr hr hl)) fun _ _ y => y
theorem qg7 (B : Below A₀ base outer h₀) (F : Fr h₀ L s.heap m) (N : News h₀ L s.heap own) (hr : News h₀ L s.heap rest) (hs : ∀ p ∈ rest, ∀ q ∈ own, p.1 ≠ q.1) (hlim : h₀.NoLimit) (hA : A.frames = some (env :: outer)) (hf : env.frame = some L) (hke : env.scope.kind = .function)
  (ho : s.heap.get? f = some fo) (hd : fo.data = .func (fnX name qual params body scope [] dV kV doc pm an cdv ct)) (hcd : s.heap.CodeRec cdv qual) (hroom : A.depth < recursionLimit)
  (hbind : BindsTo s (fnX name qual params body scope [] dV kV doc pm an cdv ct) args binds)
  (hkind : ∀ n, ∀ x ∈ binds, scope.names.lookup x.1 = some .local ∨ (scope.names.lookup x.1 = some .cell /\ ((cellsFrom n scope.names []).lookup x.1).isSome = true))
  (hnd : ((cellsFrom 0 scope.names []).map (·.1)).Nodup)
  (h : ∀ g L' h₁ tk cells, Fr h₀ L g m -> Fr g L' h₁ (bindL (envOfC qual scope L' f cdv).kindOf binds fun _ => none) -> News g L' h₁ (cells ++ own) →
   CellsAre (bindC (envOfC qual scope L' f cdv).kindOf binds fun _ => none) (cellsFrom (L' + 1) scope.names []) cells -> Below A base (env :: outer) g -> h₀.StaysIn g -> (∀ p ∈ own, p.1 < L') -> (∀ p ∈ rest, g.get? p.1 = some p.2) →
   wpAny (model prog w) (A.deeper (envOfC qual scope L' f cdv)) (execs body (envOfC qual scope L' f cdv))
    (fun fl s' => LeaveK h₀ L m g (fun r s'' => News h₀ L s''.heap rest -> R r s'') (match fl with | .ret v => v | _ => .none) s')
    (fun e s' => wpAny (model prog w) (A.deeper (envOfC qual scope L' f cdv)) (leaving (envOfC qual scope L' f cdv) e) (fun _ s'' => R (.error e) s'') (fun e' s'' => R (.error e') s'') s')
    { s with heap := h₁, toks := tk })
  (hco : scope.isCoroutine = false) (hgen : scope.isGenerator = false) (hk : scope.kind = .function) : codeAny (model prog w) A (.call (.ref f) args) R s := by
 (refine q2e (groundX (R := fun r s' => News h₀ L s'.heap rest -> R r s') B F N hA hf hke) fun FG BG st lv => ?_)
 have kr := q1p hr hs
 refine codeAny_call_function hroom ho hd hco hgen rfl hcd (hbind _ _ _ _ ?_)
 refine wpAny_newFunctionEnv_cells hk (hkind _) fun env' he s' x => ?_
 subst he
 refine ⟨(hlim.keeps F.keep).keeps x.toInCall.keep, codeAny_func ?_⟩
 (refine q07 (x.done) fun h₁ tk z1z _ => ?_; subst z1z)
 have hk₁ := x.toInCall.keep
 (refine E_ea (Cl.news (h₀ := s.heap) (Nat.le_refl _) fun n c hm => ⟨x.cell n c (lookup_of_mem_nodup (cellsFrom_names scope.names 0 (s.heap.objs.size + 1) [] [] rfl ▸ hnd) hm), x.above n c hm⟩) fun cells NC Y => ?_)
 refine wpAny_mono (h _ s.heap.objs.size h₁ tk cells FG ⟨x.toInCall.ns, fun b o e => hk₁ b o (of_hideAll _ e), Nat.le_of_eq (hideAll_size _ _)⟩ (fun p hp => ?_) Y BG st (fun p hp => Heap.lt_size (N p hp).1) kr) (fun fl s' hl => lv _ _ hl (q26 kr hr hl)) fun _ _ y => y
 rcases List.mem_append.mp hp with hp | hp
 ·refine ⟨(NC p hp).1, (NC p hp).2.1, ?_⟩
  cases q : (hideAll s.heap (own.map (·.1))).get? p.1 with
  | none => rfl
  | some o => have := of_hideAll _ q; rw [(NC p hp).2.2] at this; cases this
 ·exact ⟨hk₁ _ _ (N p hp).1, Nat.ne_of_lt (Heap.lt_size (N p hp).1), hideAll_none _ (List.mem_map_of_mem hp)⟩
end
section
variable {prog : Program} {w : World} {A A₀ : Around} {s : Shared} {K : Frag} {L : Addr} {h₀ base : Heap} {m mg mb : Str -> Option Value} {own rest : List (Addr × Obj)} {p : Program} {loose : List Str} {mean : ExcName -> Option Value}
 {env : Env} {outer : List Env} {R : Result -> Shared -> Prop} {name qual : Str} {params : Arguments} {body : List Stmt} {scope : Scope} {dV kV doc pm cdv ct oc : Value} {an od : Option Addr} {osl : Array (Option Value)} {f : Addr} {args : Args} {binds : List (Str × Value)}
theorem code_defR (B : Below A₀ base outer h₀) (F : Fr h₀ L s.heap m) (X₀ : K.In h₀) (N : News h₀ L s.heap own) (hr : News h₀ L s.heap rest) (hs : ∀ p ∈ rest, ∀ q ∈ own, p.1 ≠ q.1) (T : Top p loose mean mg mb h₀) (hA : A.frames = some (env :: outer)) (hf : env.frame = some L) (hke : env.scope.kind = .function)
  (ho : K.lookup f = some ⟨oc, od, .func (fnOf name qual params body scope dV kV doc pm an cdv ct), osl⟩) (hcd : codeIn K cdv qual = true) (hroom : A.depth < recursionLimit)
  (hbind : BindsTo s (fnOf name qual params body scope dV kV doc pm an cdv ct) args binds) (hloc : ∀ y ∈ binds, scope.names.lookup y.1 = some .local)
  (h : ∀ g L' h₁, Fr h₀ L g m -> Fr g L' h₁ (fun y => binds.reverse.lookup y) -> News g L' h₁ own -> Below A base (env :: outer) g -> K.In g -> Top p loose mean mg mb g -> (∀ p ∈ own, p.1 < L') -> (∀ p ∈ rest, g.get? p.1 = some p.2) →
   wpAny (model prog w) (A.deeper (envOf qual scope L' f cdv)) (execs body (envOf qual scope L' f cdv))
    (fun fl s' => LeaveK h₀ L m g (fun r s'' => News h₀ L s''.heap rest -> R r s'') (match fl with | .ret v => v | _ => .none) s')
    (fun e s' => wpAny (model prog w) (A.deeper (envOf qual scope L' f cdv)) (leaving (envOf qual scope L' f cdv) e) (fun _ s'' => R (.error e) s'') (fun e' s'' => R (.error e') s'') s')
    { s with heap := h₁, toks := s.toks + binds.length })
  (hco : scope.isCoroutine = false) (hgen : scope.isGenerator = false) (hk : scope.kind = .function)
  (hcell : ∀ x ∈ scope.names, x.2 ≠ .cell) : codeAny (model prog w) A (.call (.ref f) args) R s :=
 callR (cl := []) B F N hr hs T.nolimit hA hf hke ((X₀.keeps F.keep) _ _ ho) rfl (codeRec_of (X₀.keeps F.keep) hcd) hroom hbind hloc (fun g L' h₁ FG F' N' B' st l r => h g L' h₁ FG F' N' B' (X₀.keeps st) (T.keeps st) l r) hcell hco hgen hk
theorem code_defCR (B : Below A₀ base outer h₀) (F : Fr h₀ L s.heap m) (X₀ : K.In h₀) (N : News h₀ L s.heap own) (hr : News h₀ L s.heap rest) (hs : ∀ p ∈ rest, ∀ q ∈ own, p.1 ≠ q.1) (T : Top p loose mean mg mb h₀) (hA : A.frames = some (env :: outer)) (hf : env.frame = some L) (hke : env.scope.kind = .function)
  (ho : K.lookup f = some ⟨oc, od, .func (fnOf name qual params body scope dV kV doc pm an cdv ct), osl⟩) (hcd : codeIn K cdv qual = true) (hroom : A.depth < recursionLimit)
  (hbind : BindsTo s (fnOf name qual params body scope dV kV doc pm an cdv ct) args binds) (hkind : (binds.all fun y => scope.names.lookup y.1 == some .local || scope.names.lookup y.1 == some .cell) = true)
  (hnd : ((cellsFrom 0 scope.names []).map (·.1)).Nodup)
  (h : ∀ g L' h₁ tk cells, Fr h₀ L g m -> Fr g L' h₁ (bindL (envOfC qual scope L' f cdv).kindOf binds fun _ => none) -> News g L' h₁ (cells ++ own) →
   CellsAre (bindC (envOfC qual scope L' f cdv).kindOf binds fun _ => none) (cellsFrom (L' + 1) scope.names []) cells -> Below A base (env :: outer) g -> K.In g -> Top p loose mean mg mb g -> (∀ p ∈ own, p.1 < L') -> (∀ p ∈ rest, g.get? p.1 = some p.2) →
   wpAny (model prog w) (A.deeper (envOfC qual scope L' f cdv)) (execs body (envOfC qual scope L' f cdv))
    (fun fl s' => LeaveK h₀ L m g (fun r s'' => News h₀ L s''.heap rest -> R r s'') (match fl with | .ret v => v | _ => .none) s')
    (fun e s' => wpAny (model prog w) (A.deeper (envOfC qual scope L' f cdv)) (leaving (envOfC qual scope L' f cdv) e) (fun _ s'' => R (.error e) s'') (fun e' s'' => R (.error e') s'') s')
    { s with heap := h₁, toks := tk })
  (hco : scope.isCoroutine = false) (hgen : scope.isGenerator = false) (hk : scope.kind = .function) : codeAny (model prog w) A (.call (.ref f) args) R s :=
 qg7 B F N hr hs T.nolimit hA hf hke ((X₀.keeps F.keep) _ _ ho) rfl (codeRec_of (X₀.keeps F.keep) hcd) hroom hbind (kindsX hkind) hnd (fun g L' h₁ tk cells FG F' N' Y B' st l r => h g L' h₁ tk cells FG F' N' Y B' (X₀.keeps st) (T.keeps st) l r) hco hgen hk
theorem News.sub {h₀ h : Heap} {L : Addr} {a b : List (Addr × Obj)} (N : News h₀ L h a) (hb : ∀ p ∈ b, p ∈ a) : News h₀ L h b := fun p hp => N p (hb p hp)
theorem News.both {h₀ h : Heap} {L : Addr} {a b : List (Addr × Obj)} (N : News h₀ L h a) (N' : News h₀ L h b) : News h₀ L h (a ++ b) := fun p hp => (List.mem_append.mp hp).elim (N p) (N' p)
end
end
section
noncomputable abbrev accO (its : List Value) (ep : Nat) (dx : Addr) : Obj := ⟨.ref 249, some dx, .seq its.toArray ep, #[]⟩
noncomputable abbrev q0o : Str := Str.ofString "_initial_size"
section
variable {prog : Program} {w : World} {M : Model} {A : Around} {E : Value -> Shared -> Prop} {s : Shared} {K : Frag} {x C dx L : Addr} {h₀ : Heap} {m : Str -> Option Value} {ox od : Obj} {news news' : List (Addr × Obj)}
theorem q6h : (Manifest.canonical "list.__getattribute__" != "object.__getattribute__") = false := by decide +kernel
theorem q31 {its : List Value} {ep : Nat} {h : Heap} (N : News h₀ L h news) (h1 : (x, accO its ep dx) ∈ news) (h2 : (dx, od) ∈ news) : InstAt h x (accO its ep dx) 249 (some od) :=
 ⟨(N _ h1).1, rfl, rfl, (N _ h2).1⟩
theorem q1h (X : K.In s.heap) (I : InstAt s.heap x ox C (some od)) (hm : mroIn K C (.type "list") = some true) : Looks M s.heap (isInstance (.ref x) (.type "list")) true :=
 I.type.andThen (looks_mroIn X hm)
theorem q2q {id : String} {name : Str} {pl : Sem Bool} {Q : Value × List Value -> Shared -> Prop} (X : K.In s.heap) (I : InstAt s.heap x ox C (some od)) (hga : findIn K (.ref C) "__getattribute__" = some (some (.builtin "list.__getattribute__"))) (hk : findIn K (.ref C) "__getattr__" = some none)
  (hf : findIn K (.ref C) name = some (some (.builtin id))) (ht : typeOf (.builtin id) = pure (.type "method_descriptor")) (hs : shadowIn (some od) name = some false) (h : Q (.builtin id, [.ref x]) s) :
  wpAny (model prog w) A (getMethod (.ref x) name pl) Q E s := by
 have hcan := q6h
 have hd := I.dict
 unfold getMethod specialOf
 refine wpAny_bind (wpAny_bind (I.type.here ((looks_findIn X hga).here ?_)))
 dsimp only
 rw [hcan, if_neg (by decide)]
 refine wpAny_bind (wpAny_bind (I.type.here ((looks_findIn X hk).here ?_)))
 refine wpAny_bind (wpAny_bind (I.type.here ((looks_findIn X hf).here ?_)))
 dsimp only
 rw [ht]
 refine wpAny_bind (wpAny_pure ?_)
 rw [if_neg (by decide +kernel)]
 refine wpAny_bind (wpAny_loadPart I.at_ ?_)
 cases e : ox.dict with
 | none => exact wpAny_bind (wpAny_rule (wpAny_pure h))
 | some dx =>
  rw [e] at hd
  (refine E_ea (Option.map_eq_some_iff.mp hs) fun r a b => ?_)
  refine wpAny_bind (wpAny_bind (wpAny_loadPart hd ?_))
  rw [nsLook_of a]
  refine wpAny_pure ?_
  rw [b]
  exact wpAny_bind (wpAny_rule (wpAny_pure h))
theorem q93 {f : Addr} {name : Str} {pl : Sem Bool} {Q : Value × List Value -> Shared -> Prop} (X : K.In s.heap) (I : InstAt s.heap x ox C (some od)) (hga : findIn K (.ref C) "__getattribute__" = some (some (.builtin "list.__getattribute__"))) (hk : findIn K (.ref C) "__getattr__" = some none)
  (hf : findIn K (.ref C) name = some (some (.ref f))) (ht : typeIn K (.ref f) = some (.type "function")) (hs : shadowIn (some od) name = some false) (h : Q (.ref f, [.ref x]) s) :
  wpAny (model prog w) A (getMethod (.ref x) name pl) Q E s := by
 have hcan := q6h
 have hd := I.dict
 unfold getMethod specialOf
 refine wpAny_bind (wpAny_bind (I.type.here ((looks_findIn X hga).here ?_)))
 dsimp only
 rw [hcan, if_neg (by decide)]
 refine wpAny_bind (wpAny_bind (I.type.here ((looks_findIn X hk).here ?_)))
 refine wpAny_bind (wpAny_bind (I.type.here ((looks_findIn X hf).here (wpAny_bind ((looks_typeIn X ht).here ?_)))))
 rw [if_neg (by decide +kernel)]
 refine wpAny_bind (wpAny_loadPart I.at_ ?_)
 cases e : ox.dict with
 | none => exact wpAny_bind (wpAny_rule (wpAny_pure h))
 | some dx =>
  rw [e] at hd
  (refine E_ea (Option.map_eq_some_iff.mp hs) fun r a b => ?_)
  refine wpAny_bind (wpAny_bind (wpAny_loadPart hd ?_))
  rw [nsLook_of a]
  refine wpAny_pure ?_
  rw [b]
  exact wpAny_bind (wpAny_rule (wpAny_pure h))
theorem q29 {id n : String} {b : Builtin} {rest : List Value} {self : Value} {Q : Value -> Shared -> Prop} (hp : plainId id = true) (hb : entryFor table id = some b) (hk : builtinKind id = some .method ∨ builtinKind id = some .slot) (hsp : splitId id = some ("list", n))
  (hi : Looks (model prog w) s.heap (isInstance self (.type "list")) true) (ha : argsOk id ⟨self :: rest, []⟩)
  (hc : wpAny (model prog w) A.in1 (b ⟨self :: rest, []⟩) (fun fin s' => ∃ v, fin = .done (.ret v) /\ Q v s') E s) : wpAny (model prog w) A (call (.builtin id) (self :: rest)) Q E s := by
 refine wpAny_call (codeAny_call_builtin hp hb ?_)
 have hfin := wpAny_mono hc (Q' := fun fin s' => match fin with
  | .done f => (match (Except.ok f : Result) with | .ok (.ret v) => Q v s' | .ok _ => False | .error e => E e s')
  | .again c' => c'.quiet = true /\ codeAny (model prog w) A c' (fun r s' => match r with | .ok (.ret v) => Q v s' | .ok _ => False | .error e => E e s') s')
  (fun fin s' h' => by (refine E_ea h' fun v z1z hv => ?_; (try clear h'); subst z1z); exact hv) fun _ _ h' => h'
 rcases hk with hk | hk <;>
 ·simp only [checkBuiltinCall, hk, hsp]
  refine wpAny_bind (hi.here ?_)
  simp only [Bool.not_true, Bool.false_eq_true, if_false]
  cases hsig : Manifest.signature? id with
  | none => exact wpAny_pure hfin
  | some sig =>
   simp only [argsOk, hsig] at ha
   have h2 : Bind.checkArgs id sig ⟨self :: rest, []⟩ = pure () := ha
   show wpAny _ _ (Bind.checkArgs id sig ⟨self :: rest, []⟩) _ _ _
   rw [h2]; exact wpAny_pure hfin
theorem q90 {its : Array Value} {ep : Nat} {o : Obj} {f : Array Value -> Array Value} {Q : Unit -> Shared -> Prop} (F : Fr h₀ L s.heap m) (N : News h₀ L s.heap news) (hd : o.data = .seq its ep) (U : Upd x o (Obj.mapSeq f o) news news')
  (hz : its.size <= sizeLine) (hz' : (f its).size <= sizeLine + 1) (h : ∀ h', Fr h₀ L h' m -> News h₀ L h' news' -> Q () { s with heap := h' }) : wpAny M A (updateSeq x f) Q E s := by
 (refine q10 (U.split) fun pre post z1z z2z a b => ?_; subst z1z; subst z2z)
 have z := N (x, o) (List.mem_append.mpr (.inr (.head _)))
 have hs : Heap.SameBut x s.heap (s.heap.update x (Obj.mapSeq f)) := Heap.SameBut.update ..
 refine wpAny_updateSeq z.1 hd (h _ (F.change hs z.2.1 z.2.2) (news_set N a b hs ?_)) hz hz'
 (refine E_e (Obj.data_mapSeq hd f) fun n' hd' => ?_)
 exact Heap.get?_update_self _ z.1 (Obj.isFreed_of_seq hd')
theorem q25 {its : List Value} {ep : Nat} {v : Value} {Q : Value -> Shared -> Prop} (X : K.In s.heap) (I : InstAt s.heap x ox 249 (some od)) (hm : mroIn K 249 (.type "list") = some true) (F : Fr h₀ L s.heap m) (N : News h₀ L s.heap news)
  (U : Upd x (accO its ep dx) (accO (its ++ [v]) (ep + 1) dx) news news') (hz : its.length < sizeLine)
  (h : ∀ h', Fr h₀ L h' m -> News h₀ L h' news' -> Q .none { s with heap := h' }) : wpAny (model prog w) A (call (.builtin "list.append") [.ref x, v]) Q E s := by
 have slot := PySem.F.slot_list_append
 refine q29 slot.plain entry_list_append (n := "append") (by decide +kernel) (by decide +kernel) (q1h X I hm) (args_list_append _ _) ?_
 show wpAny _ _ (updateSeq x (·.push v) >>= fun _ => ret .none) _ _ s
 refine wpAny_bind (q90 (its := its.toArray) (ep := ep) (o := accO its ep dx) F N rfl ?_ (by simpa using Nat.le_of_lt hz) (by simp; exact Nat.le_of_lt hz) fun h' F' N' => wpAny_pure ⟨.none, rfl, h h' F' N'⟩)
 have e : Obj.mapSeq (·.push v) (accO its ep dx) = accO (its ++ [v]) (ep + 1) dx := by
  simp [Obj.mapSeq, accO]
 rw [e]; exact U
end
end
section
noncomputable def qbv (nm : String) (x : Addr) : Sem Unit := do
 let (name, cls) <- (pure (Str.ofString nm, Value.type "list") : Sem (Str × Value))
 if !(<- isInstance (.ref x) cls) then
  rule "descr.get.wrong-instance"
  raiseError "TypeError" s!"descriptor '{name.toString}' for '{<- typeName cls}' objects doesn't apply to a '{<- typeNameOf (.ref x)}' object"
noncomputable def bound (T id nm : String) (x : Addr) : Sem Fin := do
 qbv nm x
 ret (<- newFields T [.builtin id, .ref x])
theorem qf0 (x C : Addr) : Builtin.«method_descriptor.__get__» ⟨[.builtin "list.pop", .ref x, .ref C], []⟩ = bound "builtin_function_or_method" "list.pop" "pop" x := by kernel_rfl
theorem qef (x C : Addr) : Builtin.«wrapper_descriptor.__get__» ⟨[.builtin "list.__len__", .ref x, .ref C], []⟩ = bound "method-wrapper" "list.__len__" "__len__" x := by kernel_rfl
theorem qdh (x C : Addr) : Builtin.«wrapper_descriptor.__get__» ⟨[.builtin "list.__init__", .ref x, .ref C], []⟩ = bound "method-wrapper" "list.__init__" "__init__" x := by kernel_rfl
theorem q7h : Slot "method_descriptor" "__get__" "method_descriptor.__get__" := .of (owner := "method_descriptor") (n := "__get__") (by rw [typeLookup_type, builtinLookup_eq_fast]; kernel_rfl) (by decide +kernel) (by decide +kernel) (by decide +kernel) (by first | exact .inl (by decide +kernel) | exact .inr (by decide +kernel)) (by rw [isSubtype_type]; kernel_rfl)
theorem q4d : Slot "wrapper_descriptor" "__get__" "wrapper_descriptor.__get__" := .of (owner := "wrapper_descriptor") (n := "__get__") (by rw [typeLookup_type, builtinLookup_eq_fast]; kernel_rfl) (by decide +kernel) (by decide +kernel) (by decide +kernel) (by first | exact .inl (by decide +kernel) | exact .inr (by decide +kernel)) (by rw [isSubtype_type]; kernel_rfl)
theorem q72 : entryFor table "method_descriptor.__get__" = some Builtin.«method_descriptor.__get__» := entryFor_of_tree (by kernel_rfl)
theorem q3o : entryFor table "wrapper_descriptor.__get__" = some Builtin.«wrapper_descriptor.__get__» := entryFor_of_tree (by kernel_rfl)
theorem q7d (a b c : Value) : argsOk "method_descriptor.__get__" ⟨[a, b, c], []⟩ := by unfold argsOk; kernel_rfl
theorem q4b (a b c : Value) : argsOk "wrapper_descriptor.__get__" ⟨[a, b, c], []⟩ := by unfold argsOk; kernel_rfl
theorem qcw : typeOf (.builtin "list.pop") = pure (.type "method_descriptor") := by show builtinType _ = _; rw [builtinType_eq_fast]; kernel_rfl
theorem qde : typeOf (.builtin "list.__len__") = pure (.type "wrapper_descriptor") := by show builtinType _ = _; rw [builtinType_eq_fast]; kernel_rfl
theorem qae : typeOf (.builtin "list.__init__") = pure (.type "wrapper_descriptor") := by show builtinType _ = _; rw [builtinType_eq_fast]; kernel_rfl
section
variable {prog : Program} {w : World} {A : Around} {E : Value -> Shared -> Prop} {h : Heap} {g : Array GenState} {d : Drawn} {t : Nat} {os : OsState} {x : Addr}
theorem q9v {T id nm : String} {Q : Fin -> Shared -> Prop} (hi : Looks (model prog w) h (isInstance (.ref x) (.type "list")) true)
  (hq : Q (.done (.ret (.ref h.objs.size))) ⟨h.push { cls := .type T, data := .fields #[.builtin id, .ref x] }, g, d, t, os⟩) : wpAny (model prog w) A (bound T id nm x) Q E ⟨h, g, d, t, os⟩ := by
 unfold bound qbv
 refine wpAny_bind (wpAny_bind (wpAny_pure (wpAny_bind (hi.here ?_))))
 refine wpAny_pure ?_
 exact wpAny_bind (wpAny_newObj_type (wpAny_pure hq))
structure Binds (id dt gid bt nm : String) (Bg : Builtin) : Prop where
 type : typeOf (.builtin id) = pure (.type dt)
 slot : Slot dt "__get__" gid
 entry : entryFor table gid = some Bg
 args : ∀ a b c : Value, argsOk gid ⟨[a, b, c], []⟩
 get : ∀ x C : Addr, Bg ⟨[.builtin id, .ref x, .ref C], []⟩ = bound bt id nm x
theorem q73 : Binds "list.pop" "method_descriptor" "method_descriptor.__get__" "builtin_function_or_method" "pop" Builtin.«method_descriptor.__get__» := ⟨qcw, q7h, q72, q7d, qf0⟩
theorem q6p : Binds "list.__len__" "wrapper_descriptor" "wrapper_descriptor.__get__" "method-wrapper" "__len__" Builtin.«wrapper_descriptor.__get__» := ⟨qde, q4d, q3o, q4b, qef⟩
theorem q5d : Binds "list.__init__" "wrapper_descriptor" "wrapper_descriptor.__get__" "method-wrapper" "__init__" Builtin.«wrapper_descriptor.__get__» := ⟨qae, q4d, q3o, q4b, qdh⟩
theorem qb7 {id dt gid bt nm : String} {Bg : Builtin} (BD : Binds id dt gid bt nm Bg) {so D C : Addr} {l₀ l : List Value} {K : Frag} {name : Str} {tk : Tok} {Q : Fin -> Shared -> Prop}
  (hso : h.get? so = some { cls := .type "super", dict := none, data := .fields #[.ref D, .ref x, .ref C], slots := #[] }) (hno : Looks (model prog w) h (opaqueClassAbove (.ref C)) none)
  (hC : Looks (model prog w) h (mroOf (.ref C)) l₀) (hl : (l₀.dropWhile (· != .ref D)).drop 1 = l) (X : K.In h)
  (hf : alongIn K name l = some (some (.builtin id))) (hxC : x ≠ C) (hn : (name == ("__class__" : Str)) = false) (hi : Looks (model prog w) h (isInstance (.ref x) (.type "list")) true)
  (hq : Q (.done (.ret (.ref h.objs.size))) ⟨h.push { cls := .type bt, data := .fields #[.builtin id, .ref x] }, g, d, t, os⟩) :
  wpAny (model prog w) A (Builtin.«super.__getattribute__» ⟨[.ref so, .str name tk], []⟩) Q E ⟨h, g, d, t, os⟩ := by
 have hlk := BD.slot.lookup
 have hne : (Value.ref x == Value.ref C) = false := by simp [hxC]
 have hTf : typeOf (.builtin id) = pure (.type dt) := BD.type
 have hdt : ({ cls := .type "super", dict := none, data := .fields #[.ref D, .ref x, .ref C], slots := #[] } : Obj).data = .fields #[.ref D, .ref x, .ref C] := rfl
 have f0 : (#[.ref D, .ref x, .ref C] : Array Value)[0]? = some (.ref D) := rfl
 have f1 : (#[.ref D, .ref x, .ref C] : Array Value)[1]? = some (.ref x) := rfl
 have f2 : (#[.ref D, .ref x, .ref C] : Array Value)[2]? = some (.ref C) := rfl
 unfold Builtin.«super.__getattribute__»
 repeat (first
  | (with_reducible refine wpAny_field hso hdt f0 ?_) | (with_reducible refine wpAny_field hso hdt f1 ?_) | (with_reducible refine wpAny_field hso hdt f2 ?_)
  | (with_reducible refine ks_wpAny_notOpaque hno ?_)
  | (with_reducible refine Looks.at hC ?_; rw [hl])
  | (refine ks_forIn_along X (fun _ _ => rfl) rfl ?_ hf)
  | (simp only [hn, hne, hTf, Bool.or_false, Bool.false_eq_true, if_false])
  | wp_step
  | dsimp only)
 refine codeAny_call_builtin BD.slot.plain BD.entry (BD.slot.check _ _ _ _ _ _ _ _ BD.type (BD.args _ _ _) ?_)
 rw [BD.get]
 exact q9v hi (wpAny_bind (wpAny_pure (wpAny_pure (wpAny_pure hq))))
theorem q3q {id dt gid bt nm : String} {Bg : Builtin} (BD : Binds id dt gid bt nm Bg) {so D C : Addr} {l₀ l : List Value} {K : Frag} {name : Str} {pl : Sem Bool} {Q : Value × List Value -> Shared -> Prop}
  (hso : h.get? so = some { cls := .type "super", dict := none, data := .fields #[.ref D, .ref x, .ref C], slots := #[] }) (hno : Looks (model prog w) h (opaqueClassAbove (.ref C)) none)
  (hC : Looks (model prog w) h (mroOf (.ref C)) l₀) (hl : (l₀.dropWhile (· != .ref D)).drop 1 = l) (X : K.In h)
  (hf : alongIn K name l = some (some (.builtin id))) (hxC : x ≠ C) (hn : (name == ("__class__" : Str)) = false) (hi : Looks (model prog w) h (isInstance (.ref x) (.type "list")) true)
  (hq : Q (.ref h.objs.size, []) ⟨h.push { cls := .type bt, data := .fields #[.builtin id, .ref x] }, g, d, t + 1, os⟩) :
  wpAny (model prog w) A (getMethod (.ref so) name pl) Q E ⟨h, g, d, t, os⟩ := by
 have hlk := F.ks_slot_super_ga.lookup
 have hcan := F.ks_canon_super_ga
 have hT : ∀ t', (⟨h, g, d, t', os⟩ : Shared).TypeIs (.ref so) "super" := fun _ => ⟨_, hso, rfl⟩
 unfold getMethod
 refine wpAny_bind (wpAny_specialOf (hT _) hlk ?_)
 show wpAny _ _ (if (Manifest.canonical "super.__getattribute__" != "object.__getattribute__") = true then _ else _) _ _ _
 rw [if_pos hcan]
 unfold getAttr getAttrBy
 refine wpAny_bind (wpAny_bind (wpAny_mkText (wpAny_holding (wpAny_bind (wpAny_typeOf (hT _) (wpAny_bind (wpAny_of_eq hlk ?_)))))))
 show wpAny _ _ (getAttrByItsOwn (.ref so) (.str name t) (.type "super") (.builtin "super.__getattribute__") true false) _ _ _
 unfold getAttrByItsOwn hookBefore callGetattribute boundAndCalled
 refine wpAny_bind (wpAny_of_eq (show (if onTheHeap (.type "super") then typeLookup (.type "super") "__getattr__" else pure none) = pure none from rfl) ?_)
 refine wpAny_bind (wpAny_attempt (wpAny_holding ?_))
 show wpAny _ _ (bindSpecial (.builtin "super.__getattribute__") (.ref so) >>= _) _ _ _
 refine wpAny_bind (wpAny_of_eq (F.ks_slot_super_ga.bind _) ?_)
 refine wpAny_mono (Q := fun v s' => v = .ref h.objs.size /\ s' = ⟨h.push { cls := .type bt, data := .fields #[.builtin id, .ref x] }, g, d, t + 1, os⟩) (E := fun _ _ => False)
  (wpAny_call_entry F.ks_slot_super_ga (hT _) F.ks_entry_super_ga (qb7 BD hso hno hC hl X hf hxC hn hi ⟨_, rfl, rfl, rfl⟩) (F.ks_gaArgs_super _ _)) (fun v s' hv => ?_) fun _ _ z => z.elim
 (refine E_a hv fun z1z z2z => ?_; (try clear hv); subst z1z; subst z2z)
 exact wpAny_pure (wpAny_pure hq)
end
end
section
section
variable {prog : Program} {w : World} {A : Around} {E : Value -> Shared -> Prop} {h : Heap} {g : Array GenState} {d : Drawn} {t : Nat} {os : OsState} {x dx : Addr} {its : List Value} {ep : Nat}
theorem qeo {Q : Fin -> Shared -> Prop} (hx : h.get? x = some (accO its ep dx)) (hq : Q (.done (.ret (.int (its.length : Int) t))) ⟨h, g, d, t + 1, os⟩) :
  wpAny (model prog w) A (Builtin.«list.__len__» ⟨[.ref x], []⟩) Q E ⟨h, g, d, t, os⟩ := by
 unfold Builtin.«list.__len__»
 wp_walk using wpAny_loadPart' hx
 simpa using hq
theorem qel {v : Value} {Q : Fin -> Shared -> Prop} (hx : h.get? x = some (accO (its ++ [v]) ep dx)) (hz : its.length < sizeLine) (hq : Q (.done (.ret v)) ⟨h.update x (Obj.mapSeq fun xs => xs.eraseIdxIfInBounds its.length), g, d, t, os⟩) :
  wpAny (model prog w) A (Builtin.«list.pop» ⟨[.ref x], []⟩) Q E ⟨h, g, d, t, os⟩ := by
 unfold Builtin.«list.pop»
 wp_walk using wpAny_loadPart' hx
 have hk : seqIndex? (-1) (its ++ [v]).toArray.size = some its.length := by
  simp [seqIndex?]
  exact o78
 have hv : (its ++ [v]).toArray[its.length]? = some v := by simp
 rw [hk, Option.bind_some, hv, Option.map_some]
 have hz1 : (its ++ [v]).toArray.size <= sizeLine := by simp; exact hz
 have hz' : ((its ++ [v]).toArray.eraseIdxIfInBounds its.length).size <= sizeLine + 1 := by
  refine Nat.le_trans ?_ (Nat.le_succ_of_le hz1)
  simp only [List.eraseIdxIfInBounds_toArray, List.size_toArray]
  rw [List.length_eraseIdx]
  split <;> simp
 wp_walk using (wpAny_updateSeq hx rfl (hz := hz1) (_hz' := hz')), wpAny_loadPart' hx
 exact hq
theorem qc5 {Q : Fin -> Shared -> Prop} (hx : h.get? x = some (accO [] ep dx)) (hq : Q (.done (.ret .none)) ⟨h.update x (Obj.mapSeq fun _ => #[]), g, d, t, os⟩) :
  wpAny (model prog w) A (Builtin.«list.__init__» ⟨[.ref x], []⟩) Q E ⟨h, g, d, t, os⟩ := by
 unfold Builtin.«list.__init__»
 wp_walk using (wpAny_updateSeq hx rfl (hz := by decide) (_hz' := by decide)), wpAny_loadPart' hx
 exact hq
end
end
section
theorem qfo (P : Params) : (clsIn (Mine.hd.heap_1 P) 249).map (·.qualname) = some (Str.ofString "_Accumulator") := by kernel_rfl
theorem qf4 (P : Params) : typeIn (Mine.hd.heap_1 P) (.ref 249) = some (.type "type") := by kernel_rfl
noncomputable abbrev qbh (full : String) : Manifest.Signature := ⟨.positional, full, "pop", .self, [⟨"index", .posOnly, false⟩]⟩
theorem qeu : Manifest.signature? "list.pop" = some (qbh "list.pop") := by kernel_rfl
theorem qc6 : builtinKind "list.pop" = some .method := by decide +kernel
theorem qcs : s!"{(Str.ofString "_Accumulator").toString}.{Bind.lastOf "list.pop"}" = "_Accumulator.pop" := by kernel_rfl
theorem q95 (a : Value) : Bind.checkArgs "list.pop" (qbh "_Accumulator.pop") ⟨[a], []⟩ = pure () := by kernel_rfl
section
variable {prog : Program} {w : World} {A : Around} {E : Value -> Shared -> Prop} {s : Shared} {K : Frag} {x C dx L b : Addr} {ox od : Obj} {h₀ : Heap} {m : Str -> Option Value} {news news' : List (Addr × Obj)} {its : List Value} {ep : Nat}
theorem q4l {M : Model} {id : String} {self : Value} {rest : List Value} {Q : Unit -> Shared -> Prop} (hk : builtinKind id = some .slot) (ha : argsOk id ⟨self :: rest, []⟩) (q : Q () s) : wpAny M A (checkBoundCall id ⟨self :: rest, []⟩) Q E s := by
 unfold checkBoundCall
 cases hsig : Manifest.signature? id with
 | none => exact wpAny_pure q
 | some sig =>
  simp only [argsOk, hsig] at ha
  have h2 : Bind.checkArgs id sig ⟨self :: rest, []⟩ = pure () := ha
  simp only [hk]
  rw [if_pos (by decide), h2]
  exact wpAny_pure q
theorem q9s {M : Model} {Q : Unit -> Shared -> Prop} (X : (Mine.hd.heap_1 w.params).In s.heap) (I : InstAt s.heap x ox 249 (some od)) (hm : mroIn (Mine.hd.heap_1 w.params) 249 (.type "module") = some false) (q : Q () s) : wpAny M A (checkBoundCall "list.pop" ⟨[.ref x], []⟩) Q E s := by
 have L1 : Looks M s.heap (isInstance (.ref x) (.type "module")) false := I.type.andThen (looks_mroIn X hm)
 have L2 : Looks M s.heap (typeOf (.ref x)) (.ref 249) := I.type
 (refine E_ea (Option.map_eq_some_iff.mp (qfo w.params)) fun cd hc hq => ?_)
 have L3 : Looks M s.heap (classData 249) cd := looks_clsIn X hc
 have L4 : Looks M s.heap (typeOf (.ref 249)) (.type "type") := looks_typeIn X (qf4 _)
 unfold checkBoundCall
 simp only [qeu, qc6]
 rw [if_neg (by decide)]
 refine wpAny_bind (L1.here ?_)
 rw [if_neg (by decide +kernel)]
 refine wpAny_bind (wpAny_bind (wpAny_loadPart I.at_ (wpAny_pure ?_)))
 split
 ·rename_i hh
  have hn := I.no
  unfold notCls at hn
  rw [hh] at hn
  cases hn
 rw [if_neg (by decide)]
 refine wpAny_bind (L2.here ?_)
 refine wpAny_bind (L3.here (wpAny_bind (L4.here ?_)))
 rw [if_pos (by decide), hq, qcs]
 show wpAny _ _ (Bind.checkArgs "list.pop" (qbh "_Accumulator.pop") ⟨[.ref x], []⟩) _ _ _
 rw [q95]
 exact wpAny_pure q
theorem q3i {id bt : String} {bi : Builtin} {Q : Value -> Shared -> Prop} (hb : s.heap.get? b = some { cls := .type bt, data := .fields #[.builtin id, .ref x] }) (hbt : bt = "method-wrapper" ∨ bt = "builtin_function_or_method") (hp : plainId id = true) (he : entryFor table id = some bi)
  (hck : ∀ {Q' : Unit -> Shared -> Prop} {E' : Value -> Shared -> Prop}, Q' () s -> wpAny (model prog w) A.in1 (checkBoundCall id ⟨[.ref x], []⟩) Q' E' s)
  (hc : wpAny (model prog w) A.in1 (bi ⟨[.ref x], []⟩) (fun fin s' => ∃ v, fin = .done (.ret v) /\ Q v s') E s) : wpAny (model prog w) A (call (.ref b) []) Q E s := by
 have hfin := wpAny_mono hc (Q' := fun fin s' => match fin with
  | .done f => (match (Except.ok f : Result) with | .ok (.ret v) => Q v s' | .ok _ => False | .error e => E e s')
  | .again c' => c'.quiet = true /\ codeAny (model prog w) A c' (fun r s' => match r with | .ok (.ret v) => Q v s' | .ok _ => False | .error e => E e s') s')
  (fun fin s' h' => by (refine E_ea h' fun v z1z hv => ?_; (try clear h'); subst z1z); exact hv) fun _ _ h' => h'
 refine wpAny_call (codeAny_of_tree ?_)
 show wpAny _ A.in1 (callAny (.ref b) ⟨[], []⟩) _ _ _
 unfold callAny
 refine wpAny_bind (wpAny_load hb ?_)
 have hbb : ((Value.type bt == .type "method") || (Value.type bt == .type "builtin_function_or_method") || (Value.type bt == .type "method-wrapper")) = true := by rcases hbt with rfl | rfl <;> decide
 have hbm : (Value.type bt != .type "method") = true := by rcases hbt with rfl | rfl <;> decide
 show wpAny _ _ (if ((Value.type bt == .type "method") || (Value.type bt == .type "builtin_function_or_method") || (Value.type bt == .type "method-wrapper")) = true then _ else _) _ _ _
 rw [if_pos hbb]
 show wpAny _ _ (if (Value.type bt != .type "method") = true then _ else _) _ _ _
 rw [if_pos hbm]
 refine wpAny_bind (hck ?_)
 refine wpAny_pure ⟨plainId_quiet hp _, ?_⟩
 refine codeAny_builtin he ?_
 rw [Around.under_plainId hp]
 exact hfin
end
end
section
noncomputable def SeqAt (h : Heap) (l : Addr) (items : Array Value) : Prop := ∃ o n, h.get? l = some o /\ o.data = .seq items n
theorem SeqAt.at {h h' : Heap} {l : Addr} {items : Array Value} (x : SeqAt h l items) (hk : ∀ o, h.get? l = some o -> h'.get? l = some o) : SeqAt h' l items := by
 (refine q07 x fun o n ho hd => ?_; (try clear x))
 exact ⟨o, n, hk o ho, hd⟩
section
variable {prog : Program} {w : World} {A : Around} {E : Value -> Shared -> Prop} {s : Shared} {K : Frag} {x C : Addr} {ox od : Obj}
theorem qak {it l : Addr} {i : Nat} {items : Array Value} {v : Value} {Q : Option Value -> Shared -> Prop} (hit : s.heap.IsListIter it l i) (hl : SeqAt s.heap l items) (hx : items[i]? = some v)
  (hQ : ∀ h', h'.IsListIter it l (i + 1) -> Heap.SameBut it s.heap h' -> Q (some v) { s with heap := h' }) : wpAny (model prog w) A (pyNext (.ref it)) Q E s := by
 (refine q1u (id hit) fun o ho hc hd => ?_)
 (refine q07 hl fun ol nl hol hdl => ?_; (try clear hl))
 unfold pyNext
 refine wpAny_bind (wpAny_attempt (wpAny_callSpecial?_slot (name := Str.ofString "__next__") hit.typeIs slot_listiter_next
  (wpAny_call_entry slot_listiter_next hit.typeIs entry_listiter_next ?_ (args_listiter_next _))))
 show wpAny _ _ (field (.ref it) 0 >>= _) _ _ s
 refine wpAny_bind (wpAny_field ho hd (x := .ref l) rfl ?_)
 show wpAny _ _ (if (Value.ref l == Value.none) = true then _ else _) _ _ s
 rw [if_neg (show ¬ ((Value.ref l == Value.none) = true) from Bool.false_ne_true)]
 show wpAny _ _ (field (.ref it) 1 >>= _) _ _ s
 refine wpAny_bind (wpAny_field ho hd (x := .int i 0) rfl ?_)
 show wpAny _ _ (seqItems? (.ref l) >>= _) _ _ s
 refine wpAny_bind (wpAny_seqItems hol hdl ?_)
 simp only [Int.toNat_natCast, hx]
 refine wpAny_bind (wpAny_setField ho hd (by simp) (wpAny_pure ⟨v, rfl, wpAny_pure (hQ _ ?_ (Heap.SameBut.update ..))⟩))
 exact ⟨_, Heap.get?_update_self _ ho (Obj.isFreed_of_fields (Obj.data_mapFields hd _)), (Obj.cls_mapFields ..).trans hc, by
  rw [Obj.data_mapFields hd]; simp [rawInt]⟩
theorem qd9 {it l : Addr} {i : Nat} {items : Array Value} {Q : Option Value -> Shared -> Prop} (hh : A.handled = none) (hit : s.heap.IsListIter it l i) (hl : SeqAt s.heap l items) (hx : items[i]? = none)
  (hQ : ∀ h', Heap.ExtBut it s.heap h' -> Q none { s with heap := h' }) : wpAny (model prog w) A (pyNext (.ref it)) Q E s := by
 (refine q1u (id hit) fun o ho hc hd => ?_)
 (refine q07 hl fun ol nl hol hdl => ?_; (try clear hl))
 unfold pyNext
 refine wpAny_bind (wpAny_attempt (wpAny_callSpecial?_slot (name := Str.ofString "__next__") hit.typeIs slot_listiter_next
  (wpAny_call_entry slot_listiter_next hit.typeIs entry_listiter_next ?_ (args_listiter_next _))))
 show wpAny _ _ (field (.ref it) 0 >>= _) _ _ s
 refine wpAny_bind (wpAny_field ho hd (x := .ref l) rfl ?_)
 show wpAny _ _ (if (Value.ref l == Value.none) = true then _ else _) _ _ s
 rw [if_neg (show ¬ ((Value.ref l == Value.none) = true) from Bool.false_ne_true)]
 show wpAny _ _ (field (.ref it) 1 >>= _) _ _ s
 refine wpAny_bind (wpAny_field ho hd (x := .int i 0) rfl ?_)
 show wpAny _ _ (seqItems? (.ref l) >>= _) _ _ s
 refine wpAny_bind (wpAny_seqItems hol hdl ?_)
 simp only [Int.toNat_natCast, hx]
 refine wpAny_bind (wpAny_rule (wpAny_bind (wpAny_setField ho hd (by simp) ?_)))
 show wpAny _ _ (newExc (.type "StopIteration") [] >>= _) _ _ _
 refine wpAny_bind ?_
 simp only [newExc, newTuple]
 refine wpAny_bind (wpAny_newObj_type ?_ (by exact Nat.zero_le _))
 refine wpAny_bind (m := firstArgMember _ _) (wpAny_of_eq (a := Value.none) (by first | rfl | (simp only [firstArgMember]; rfl)) ?_)
 refine wpAny_newObj_type ?_ (by size_fits)
 simp only [raiseNew]
 refine wpAny_bind (wpAny_handled ?_)
 rw [show A.in1.handled = none from hh]
 refine wpAny_bind (wpAny_pure (wpAny_throw ?_))
 refine wpAny_bind (wpAny_isInstance (T := "StopIteration") (b := true) ⟨_, Heap.get?_push_size _ rfl, rfl⟩ isSubtype_stop ?_)
 exact wpAny_pure (hQ _ (((Heap.SameBut.update ..).extBut.push _).push _))
theorem q7f (hh : A.handled = none) (I ax : Addr) (hne : ax ≠ I) (items : Array Value) (Ts : Nat -> Addr) (vals : Nat -> Array Value)
  (hit : ∀ j, j < items.size -> items[j]? = some (.ref (Ts j))) (hTI : ∀ j, j < items.size -> Ts j ≠ I) :
  WalksU prog w A I (I :: ax :: (List.range items.size).map Ts) [I] items.size (fun j v => v = vals j)
   (fun j h => h.IsListIter I ax j /\ SeqAt h ax items /\ ∀ k, k < items.size -> h.IsTuple (Ts k) (vals k))
   (fun j T h => (j < items.size /\ T = Ts j) /\ h.IsListIter I ax (j + 1) /\ SeqAt h ax items /\ ∀ k, k < items.size -> h.IsTuple (Ts k) (vals k)) where
 sub := fun b hb => by rw [List.mem_singleton.mp hb]; exact .head _
 frame := fun _ _ _ st hk => ⟨st.1.at fun o e => hk I (.head _) o e, st.2.1.at fun o e => hk ax (.tail _ (.head _)) o e,
  fun k hk' => (st.2.2 k hk').at fun o e => hk (Ts k) (.tail _ (.tail _ (List.mem_map.mpr ⟨k, List.mem_range.mpr hk', rfl⟩))) o e⟩
 item := fun i s Q E hi st hQ => by
  refine qak st.1 st.2.1 (v := .ref (Ts i)) (hit i hi) fun h' hit' hs' => ?_
  have tup : ∀ k, k < items.size -> h'.IsTuple (Ts k) (vals k) := fun k hk' => (st.2.2 k hk').extBut hs'.extBut (hTI k hk')
  exact hQ (Ts i) (vals i) h' s.toks rfl (tup i hi) ⟨⟨hi, rfl⟩, hit', st.2.1.at fun o e => hs'.extBut _ _ hne e, tup⟩ fun b o hb e => hs'.extBut b o (fun h => hb (h ▸ .head _)) e
 go := fun _ _ _ _ _ s Q _ hm hQ => wpAny_letOwnedTupleGo_listiter hm.2.1 (hQ s.heap hm.2 fun _ _ _ e => e)
 apart := fun j T _ hm hmem => by
  have e := List.mem_singleton.mp hmem
  exact hTI j hm.1.1 (hm.1.2 ▸ e)
 done := fun s Q E st hQ => qd9 hh st.1 st.2.1 (by simp) fun h' he' => hQ h' s.toks fun b o hb e => he' b o (fun h => hb (h ▸ .head _)) e
 self := fun _ _ _ _ st hQ => wpAny_pyIter_listiter st.1 hQ
theorem qbk {Q : Value -> Shared -> Prop} (X : K.In s.heap) (I : InstAt s.heap x ox C (some od)) (hm : mroIn K C (.type "list") = some true) (hf : findIn K (.ref C) "__iter__" = some (some (.builtin "list.__iter__")))
  (hQ : Q (.ref s.heap.objs.size) { s with heap := s.heap.push { cls := .type "list_iterator", data := .fields #[.ref x, .int 0 0] } }) :
  wpAny (model prog w) A (pyIter (.ref x)) Q E s := by
 have slot := slot_list_iter
 have hc : ∀ {Q : Value -> Shared -> Prop}, Q (.ref s.heap.objs.size) { s with heap := s.heap.push { cls := .type "list_iterator", data := .fields #[.ref x, .int 0 0] } } -> wpAny (model prog w) A (call (.builtin "list.__iter__") [.ref x]) Q E s := by
  intro Q hQ
  refine q29 slot.plain entry_list_iter (n := "__iter__") (by decide +kernel) (by decide +kernel) (q1h X I hm) (args_list_iter _) ?_
  show wpAny _ _ (do ret (<- newFields "list_iterator" [.ref x, rawInt 0])) _ _ s
  exact wpAny_bind (wpAny_newObj_type (wpAny_pure ⟨_, rfl, hQ⟩))
 unfold pyIter
 unfold specialOf
 refine wpAny_bind (wpAny_bind (I.type.here ((looks_findIn X hf).here ?_)))
 show wpAny _ _ (callSpecialIfBoundUnlessNone? (.ref x) "__iter__" _ >>= _) Q E s
 refine wpAny_bind ?_
 simp only [callSpecialIfBoundUnlessNone?, bindSpecialIfBound?]
 unfold specialOf
 refine wpAny_holding (wpAny_bind (wpAny_bind (wpAny_bind (I.type.here ((looks_findIn X hf).here ?_)))))
 simp only [slot.bind]
 refine wpAny_bind (wpAny_askSetting (wpAny_ite ?_))
 have fin : ∀ {Q' : Option Value -> Shared -> Prop} {r : Sem Value}, Q' (some (.ref s.heap.objs.size)) { s with heap := s.heap.push { cls := .type "list_iterator", data := .fields #[.ref x, .int 0 0] } } -> wpAny (model prog w) A (if (Value.builtin "list.__iter__" == Value.none) = true then (r >>= fun v => pure (some v)) else (call (.builtin "list.__iter__") [.ref x] >>= fun v => pure (some v))) Q' E s := by
  intro Q' r hq
  simp only [builtin_beq_none, Bool.false_eq_true, if_false]
  exact wpAny_bind (hc (wpAny_pure hq))
 have nx : wpAny (model prog w) A (do
   match <- (do let t <- typeOf (.ref s.heap.objs.size); typeLookup t "__next__") with
   | none => rule "iter.non-iterator"; raiseError "TypeError" s!"iter() returned non-iterator of type '{<- typeNameOf (.ref s.heap.objs.size)}'"
   | some _ => pure (.ref s.heap.objs.size)) Q E { s with heap := s.heap.push { cls := .type "list_iterator", data := .fields #[.ref x, .int 0 0] } } := by
  refine wpAny_bind ?_
  have hT : Shared.TypeIs { s with heap := s.heap.push { cls := .type "list_iterator", data := .fields #[.ref x, .int 0 0] } } (.ref s.heap.objs.size) "list_iterator" := ⟨_, Heap.get?_push_size _ rfl, rfl⟩
  exact wpAny_specialOf hT slot_listiter_next.lookup (wpAny_pure hQ)
 split
 ·exact wpAny_bind (wpAny_pure (wpAny_pure (fin nx)))
 ·exact wpAny_tryCatch (wpAny_bind (wpAny_pure (wpAny_pure (fin nx))))
end
end
section
section
variable {prog : Program} {w : World} {A : Around} {R : Result -> Shared -> Prop} {h : Heap} {g : Array GenState} {d : Drawn} {t : Nat} {os : OsState} {oc : Value} {od : Option Addr} {cd : ClassData} {sl : Array (Option Value)}
theorem qfr : builtinKind "list.__new__" = some .builtinFn := by decide +kernel
theorem qch : splitId "list.__new__" = some ("list", "__new__") := by decide +kernel
theorem qfa (a b : Value) : argsOk "list.__new__" ⟨[a, b], []⟩ := by unfold argsOk; kernel_rfl
theorem qh9 {a1 : Value} (hC : h.get? 249 = some ⟨oc, od, .cls cd, sl⟩) (hsl : (sl[4]?).join = some (.builtin "list.__new__")) (hm : cd.mro = [.ref 249, .type "list", .type "object"]) (e2 : cd.hasDel = false)
  (hq : R (.ok (.ret (.ref (h.objs.size + 1)))) ⟨(h.push emptyDict).push (accO [] 0 h.objs.size), g, d, t, os⟩) :
  codeAny (model prog w) A (.call (.builtin "list.__new__") ⟨[.ref 249, a1], []⟩) R ⟨h, g, d, t, os⟩ := by
 have ld : ∀ p, Looks (model prog w) h (.load 249 p .pure) ⟨oc, od, .cls cd, sl⟩ := fun p A' Q E s k q => nd_load (k _ _ hC) (wpAny_pure q)
 have mro : Looks (model prog w) h (mroOf (.ref 249)) cd.mro := ((Looks.ld (part := none) hC).andThen .now).andThen .now
 have made : Looks (model prog w) h (Bind.madeBy (.ref 249)) (some "list.__new__") := by
  intro A Q E s k q
  unfold Bind.madeBy
  refine wpAny_bind (mro A _ E s k ?_)
  rw [hm, List.forIn_cons]
  refine wpAny_bind (wpAny_bind (wpAny_bind (wpAny_bind (wpAny_loadPart (k _ _ hC) (wpAny_pure ?_)))))
  dsimp only
  rw [hsl]
  exact wpAny_pure (wpAny_pure (wpAny_pure q))
 have base : Looks (model prog w) h (Bind.staticBase (.ref 249)) (.ref 249) := by
  intro A Q E s k q
  unfold Bind.staticBase
  refine wpAny_bind (mro A _ E s k ?_)
  rw [hm, List.forIn_cons]
  exact wpAny_bind (wpAny_bind (wpAny_bind (made A _ E s k (wpAny_pure (wpAny_pure (wpAny_pure q))))))
 have sub : Looks (model prog w) h (isSubtype (.ref 249) (.type "list")) true := by
  intro A Q E s k q
  unfold isSubtype
  refine wpAny_bind (mro A _ E s k ?_)
  rw [hm]
  exact wpAny_pure q
 have isT : Looks (model prog w) h (isType (.ref 249)) true := by
  intro A Q E s k q
  unfold isType
  refine wpAny_bind (wpAny_loadPart (k _ _ hC) (wpAny_pure ?_))
  exact q
 refine codeAny_call_builtin_code (plainId_quiet PySem.F.plain_list_new _) ?_
 have ha := qfa (.ref 249) a1
 simp only [checkBuiltinCall, qfr, qch]
 rw [if_pos (by decide)]
 refine wpAny_bind (isT.at ?_)
 rw [if_neg (by decide)]
 refine wpAny_bind (sub.at ?_)
 rw [if_neg (by decide)]
 refine wpAny_bind (base.at ?_)
 refine wpAny_bind (made.at ?_)
 dsimp only
 rw [if_neg (by decide +kernel)]
 have after : codeAny (model prog w) A (.builtin "list.__new__" ⟨[.ref 249, a1], []⟩) R ⟨h, g, d, t, os⟩ := by
  refine codeAny_builtin_stack PySem.F.entry_list_new rfl fun p st => ?_
  rw [Around.under_plainId PySem.F.plain_list_new _]
  have hown := owner_list_new
  simp only [hown]
  refine wpAny_bind (isT.at ?_)
  rw [if_neg (by decide)]
  refine wpAny_bind (sub.at ?_)
  rw [if_neg (by decide)]
  refine wpAny_bind (wpAny_pure ?_)
  rw [if_neg (by decide)]
  refine wpAny_bind (wpAny_newObj_type ?_)
  dsimp only
  refine wpAny_bind ?_
  unfold newObj
  dsimp only
  rw [if_neg (show ¬ (#[] : Array Value).size > sizeLine by decide)]
  show wpAny _ _ (newObjAsIs _ _ _) _ _ _
  unfold newObjAsIs classHasDel
  refine wpAny_bind (wpAny_alloc (wpAny_bind (wpAny_bind (wpAny_load (Heap.get?_push_of_some _ (Heap.get?_push_of_some _ hC)) (wpAny_pure ?_)))))
  rw [e2]
  refine wpAny_pure (wpAny_pure ?_)
  show R _ _
  rw [Heap.size_push]
  exact hq
 cases hsig : Manifest.signature? "list.__new__" with
 | none => exact wpAny_pure after
 | some sig =>
  simp only [argsOk, hsig] at ha
  have h2 : Bind.checkArgs "list.__new__" sig ⟨[.ref 249, a1], []⟩ = pure () := ha
  show wpAny _ _ (Bind.checkArgs "list.__new__" sig ⟨[.ref 249, a1], []⟩) _ _ _
  rw [h2]
  exact wpAny_pure after
theorem qfv {K : Frag} {a1 : Value} {fI : Addr} (X : K.In h) (hC : K.lookup 249 = some ⟨oc, od, .cls cd, sl⟩) (hsl : (sl[4]?).join = some (.builtin "list.__new__")) (hm : cd.mro = [.ref 249, .type "list", .type "object"]) (e2 : cd.hasDel = false)
  (hcall : specialIn K (.ref 249) "__call__" = some (some (.builtin "type.__call__"))) (htyp : instIn K (.ref 249) (.type "type") = some true) (hself : mroIn K 249 (.ref 249) = some true)
  (hi : findIn K (.ref 249) "__init__" = some (some (.ref fI))) (hf : typeIn K (.ref fI) = some (.type "function"))
  (hq : codeAny (model prog w) (A.under (.builtin "type.__call__" ⟨[.ref 249, a1], []⟩)) (.call (.ref fI) ⟨[.ref (h.objs.size + 1), a1], []⟩) (InitBack (h.objs.size + 1) R) ⟨(h.push emptyDict).push (accO [] 0 h.objs.size), g, d, t, os⟩) :
  codeAny (model prog w) A (.call (.ref 249) ⟨[a1], []⟩) R ⟨h, g, d, t, os⟩ := by
 have hC := X _ _ hC
 have call := looks_specialIn (M := model prog w) X hcall
 have typ := looks_instIn (M := model prog w) X htyp
 have mro : Looks (model prog w) h (mroOf (.ref 249)) cd.mro := ((Looks.ld (part := none) hC).andThen .now).andThen .now
 have made : Looks (model prog w) h (Bind.madeBy (.ref 249)) (some "list.__new__") := by
  intro A Q E s k q
  unfold Bind.madeBy
  refine wpAny_bind (mro A _ E s k ?_)
  rw [hm, List.forIn_cons]
  refine wpAny_bind (wpAny_bind (wpAny_bind (wpAny_bind (wpAny_loadPart (k _ _ hC) (wpAny_pure ?_)))))
  dsimp only
  rw [hsl]
  exact wpAny_pure (wpAny_pure (wpAny_pure q))
 refine codeAny_of_tree ?_
 show wpAny _ _ (callAny (.ref 249) _) _ _ _
 refine nd_load hC ?_
 show wpAny _ _ (callAny.viaDunder (.ref 249) _) _ _ _
 unfold callAny.viaDunder
 refine wpAny_bind (call.at ?_)
 dsimp only
 rw [tc_bind]
 refine wpAny_bind (wpAny_pure (wpAny_bind (wpAny_pure ?_)))
 refine wpAny_pure (a := Fin.again (.call (.builtin "type.__call__") ⟨[.ref 249, a1], []⟩)) (And.intro rfl ?_)
 refine codeAny_call_builtin_at (Code.quiet_builtin _ (by decide +kernel)) entry_typeCall (check_slot tc_kind tc_split typ (tc_args _ _ _) ?_)
 unfold Builtin.«type.__call__»
 have e4 : cd.mro.isEmpty = false := by rw [hm]; rfl
 repeat (first | simp only [e4, Bool.false_eq_true, if_false] | with_reducible refine wpAny_call ?_ | lk)
 refine qh9 hC hsl hm e2 ?_
 have k : ∀ b o, h.get? b = some o -> ((h.push emptyDict).push (accO [] 0 h.objs.size)).get? b = some o := fun b o e => Heap.get?_push_of_some _ (Heap.get?_push_of_some _ e)
 have hx : ((h.push emptyDict).push (accO [] 0 h.objs.size)).get? (h.objs.size + 1) = some (accO [] 0 h.objs.size) := by heap_get
 have t1 : Looks (model prog w) ((h.push emptyDict).push (accO [] 0 h.objs.size)) (typeOf (.ref (h.objs.size + 1))) (.ref 249) := (Looks.ld hx).andThen .now
 have s1 := (looks_mroIn (M := model prog w) X hself).keeps k
 have i1 := (looks_findIn (M := model prog w) X hi).keeps k
 have b1 := (bind_fn (M := model prog w) X (.ref (h.objs.size + 1)) hf).keeps k
 unfold isInstance callSpecial? specialOf
 repeat (first | with_reducible refine wpAny_call ?_ | lk)
 refine codeAny_mono hq fun r s' z => ?_
 rcases r with e | (v | _ | _ | _) <;> first | exact z | exact z.elim | skip
 obtain ⟨rfl, z⟩ := z
 exact wpAny_pure (wpAny_pure z)
end
end
section
section
variable {prog : Program} {w : World} {A₀ A : Around} {s : Shared} {base h₀ : Heap} {outer : List Env} {L : Addr} {m mg mb : Str -> Option Value} {env : Env} {own rest : List (Addr × Obj)} {K : Frag} {p : Program} {loose : List Str} {mean : ExcName -> Option Value}
 {R : Result -> Shared -> Prop} {name qual : Str} {params : Arguments} {body : List Stmt} {scope : Scope} {dV kV doc pm cdv ct oc : Value} {an od : Option Addr} {osl : Array (Option Value)} {f cc : Addr} {args : Args} {binds : List (Str × Value)}
theorem q1s (B : Below A₀ base outer h₀) (F : Fr h₀ L s.heap m) (X₀ : K.In h₀) (N : News h₀ L s.heap own) (hr : News h₀ L s.heap rest) (hs : ∀ p ∈ rest, ∀ q ∈ own, p.1 ≠ q.1) (T : Top p loose mean mg mb h₀) (hA : A.frames = some (env :: outer)) (hf : env.frame = some L) (hke : env.scope.kind = .function)
  (ho : K.lookup f = some ⟨oc, od, .func (ksFn name qual params body scope dV kV doc pm an cdv ct cc), osl⟩) (hcd : codeIn K cdv qual = true) (hroom : A.depth < recursionLimit)
  (hbind : BindsTo s (ksFn name qual params body scope dV kV doc pm an cdv ct cc) args binds) (hloc : ∀ y ∈ binds, scope.names.lookup y.1 = some .local)
  (h : ∀ g L' h₁, Fr h₀ L g m -> Fr g L' h₁ (fun y => binds.reverse.lookup y) -> News g L' h₁ own -> Below A base (env :: outer) g -> K.In g -> Top p loose mean mg mb g -> (∀ p ∈ own, p.1 < L') -> (∀ p ∈ rest, g.get? p.1 = some p.2) →
   _root_.PySem.wpAt (model prog w) (A.deeper (ksEnv qual scope L' f cdv cc)) (.func body (ksEnv qual scope L' f cdv cc)) (execs body (ksEnv qual scope L' f cdv cc))
    (fun fl s' => LeaveK h₀ L m g (fun r s'' => News h₀ L s''.heap rest -> R r s'') (match fl with | .ret v => v | _ => .none) s')
    (fun e s' => wpAny (model prog w) (A.deeper (ksEnv qual scope L' f cdv cc)) (leaving (ksEnv qual scope L' f cdv cc) e) (fun _ s'' => R (.error e) s'') (fun e' s'' => R (.error e') s'') s')
    { s with heap := h₁, toks := s.toks + binds.length })
  (hcell : ∀ x ∈ scope.names, x.2 ≠ .cell := by decide) (hco : scope.isCoroutine = false := by rfl) (hgen : scope.isGenerator = false := by rfl) (hk : scope.kind = .function := by rfl) : codeAny (model prog w) A (.call (.ref f) args) R s := by
 (refine q2e (groundX (R := fun r s' => News h₀ L s'.heap rest -> R r s') B F N hA hf hke) fun FG BG st lv => ?_)
 have kr := q1p hr hs
 refine ks_codeAny_call_defAt (fd := ksFn name qual params body scope dV kV doc pm an cdv ct cc) (body := body) (binds := binds) hroom ((X₀.keeps F.keep) _ _ ho) rfl (T.nolimit.keeps F.keep) (codeRec_of (X₀.keeps F.keep) hcd) rfl hbind hcell hloc (fun h₁ hns hk₁ => ?_) hco hgen hk
 exact ks_wpAt_mono (h _ s.heap.objs.size h₁ FG ⟨hns, fun b o e => hk₁ b o (of_hideAll _ e), Nat.le_of_eq (hideAll_size _ _)⟩
  (fun p hp => ⟨hk₁ _ _ (N p hp).1, Nat.ne_of_lt (Heap.lt_size (N p hp).1), hideAll_none _ (List.mem_map_of_mem hp)⟩) BG (X₀.keeps st) (T.keeps st) (fun p hp => Heap.lt_size (N p hp).1) kr) (fun fl s' hl => lv _ _ hl (q26 kr hr hl)) fun _ _ y => y
end
end
section
section
variable {prog : Program} {w : World} {A A₀ : Around} {s : Shared} {K : Frag} {L : Addr} {h₀ base : Heap} {m mg mb : Str -> Option Value} {own rest att : List (Addr × Obj)} {p : Program} {loose : List Str} {mean : ExcName -> Option Value}
 {env : Env} {outer : List Env} {R : Result -> Shared -> Prop} {name qual : Str} {params : Arguments} {body : List Stmt} {scope : Scope} {dV kV doc pm cdv ct oc : Value} {an od : Option Addr} {osl : Array (Option Value)} {f : Addr} {args : Args} {binds : List (Str × Value)}
theorem q9f (hat : ∀ p ∈ att, s.heap.get? p.1 = some p.2) (hs : ∀ p ∈ att, ∀ q ∈ own, p.1 ≠ q.1) : ∀ p ∈ att, (hideAll s.heap (own.map (·.1))).get? p.1 = some p.2 := fun p hp =>
 hideAll_get _ (hat p hp) fun h => by
  (refine E_ea (List.mem_map.mp h) fun q hq e => ?_)
  exact hs p hp q hq e.symm
theorem q6j (B : Below A₀ base outer h₀) (F : Fr h₀ L s.heap m) (X₀ : K.In h₀) (N : News h₀ L s.heap own) (hr : News h₀ L s.heap rest) (hs : ∀ p ∈ rest, ∀ q ∈ own, p.1 ≠ q.1) (hat : ∀ p ∈ att, s.heap.get? p.1 = some p.2) (hsa : ∀ p ∈ att, ∀ q ∈ own, p.1 ≠ q.1) (T : Top p loose mean mg mb h₀) (hA : A.frames = some (env :: outer)) (hf : env.frame = some L) (hke : env.scope.kind = .function)
  (ho : K.lookup f = some ⟨oc, od, .func (fnOf name qual params body scope dV kV doc pm an cdv ct), osl⟩) (hcd : codeIn K cdv qual = true) (hroom : A.depth < recursionLimit)
  (hbind : BindsTo s (fnOf name qual params body scope dV kV doc pm an cdv ct) args binds) (hloc : ∀ y ∈ binds, scope.names.lookup y.1 = some .local)
  (h : ∀ g L' h₁, Fr h₀ L g m -> Fr g L' h₁ (fun y => binds.reverse.lookup y) -> News g L' h₁ own -> Below A base (env :: outer) g -> K.In g -> Top p loose mean mg mb g -> (∀ p ∈ own, p.1 < L') -> (∀ p ∈ att, g.get? p.1 = some p.2) →
   wpAny (model prog w) (A.deeper (envOf qual scope L' f cdv)) (execs body (envOf qual scope L' f cdv))
    (fun fl s' => LeaveK h₀ L m g (fun r s'' => News h₀ L s''.heap rest -> R r s'') (match fl with | .ret v => v | _ => .none) s')
    (fun e s' => wpAny (model prog w) (A.deeper (envOf qual scope L' f cdv)) (leaving (envOf qual scope L' f cdv) e) (fun _ s'' => R (.error e) s'') (fun e' s'' => R (.error e') s'') s')
    { s with heap := h₁, toks := s.toks + binds.length })
  (hco : scope.isCoroutine = false) (hgen : scope.isGenerator = false) (hk : scope.kind = .function)
  (hcell : ∀ x ∈ scope.names, x.2 ≠ .cell) : codeAny (model prog w) A (.call (.ref f) args) R s := by
 (refine q2e (groundX (R := fun r s' => News h₀ L s'.heap rest -> R r s') B F N hA hf hke) fun FG BG st lv => ?_)
 have kr := q1p hr hs
 have ka := q9f hat hsa
 refine codeAny_call_def (fd := fnX name qual params body scope [] dV kV doc pm an cdv ct) (body := body) (binds := binds) hroom ((X₀.keeps F.keep) _ _ ho) rfl (T.nolimit.keeps F.keep) (codeRec_of (X₀.keeps F.keep) hcd) rfl hbind hcell hloc (fun h₁ hns hk₁ => ?_) hco hgen hk
 refine wpAny_mono (h _ s.heap.objs.size h₁ FG ⟨hns, fun b o e => hk₁ b o (of_hideAll _ e), Nat.le_of_eq (hideAll_size _ _)⟩
  (fun p hp => ⟨hk₁ _ _ (N p hp).1, Nat.ne_of_lt (Heap.lt_size (N p hp).1), hideAll_none _ (List.mem_map_of_mem hp)⟩) BG (X₀.keeps st) (T.keeps st) (fun p hp => Heap.lt_size (N p hp).1) ka) (fun fl s' hl => lv _ _ hl (q26 kr hr hl)) fun _ _ y => y
end
end
end
section
open PySem PySem.Sre
noncomputable abbrev wsCode : Array Nat := #[14, 4, 0, 1, 4294967295, 17, 0, 24, 11, 1, 4294967295, 13, 6, 16, 32, 16, 9, 0, 1, 17, 1, 1]
noncomputable def isW (c : Nat) : Bool := c == 32 || c == 9
theorem q65 {code : Array Nat} {c fuel i : Nat} {yes : Bool} {seen : Seen} (h : ops[code.getD (i + 0) 0]? = some .LITERAL) :
  inSet code c (fuel + 1) i yes seen = if c == code.getD (i + 1) 0 then .ok (yes, seen.add (code.getD (i + 0) 0)) else inSet code c fuel (i + 2) yes (seen.add (code.getD (i + 0) 0)) := by
 rw [inSet]
 simp only [h]
theorem q9d {code : Array Nat} {c fuel i : Nat} {yes : Bool} {seen : Seen} (h : ops[code.getD (i + 0) 0]? = some .FAILURE) :
  inSet code c (fuel + 1) i yes seen = .ok (!yes, seen.add (code.getD (i + 0) 0)) := by
 rw [inSet]
 simp only [h]
theorem q9g (c : Nat) (seen : Seen) : ∃ seen', accepts wsCode 11 c seen = .ok (isW c, seen') := by
 have e0 : accepts wsCode 11 c seen = inSet wsCode c 22 13 true seen := by
  unfold accepts
  have e1 : (ops[wsCode.getD 11 0]? : Option Op) = some .IN := rfl
  simp only [e1]
  rfl
 rw [e0, q65 rfl]
 have k1 : wsCode.getD (13 + 1) 0 = 32 := rfl
 have k2 : wsCode.getD (13 + 2 + 1) 0 = 9 := rfl
 rw [k1]
 by_cases h1 : (c == 32) = true
 ·rw [if_pos h1]
  exact ⟨_, by unfold isW; rw [h1]; rfl⟩
 ·rw [if_neg h1, q65 rfl, k2]
  have h1' : (c == 32) = false := by simpa using h1
  by_cases h2 : (c == 9) = true
  ·rw [if_pos h2]
   exact ⟨_, by unfold isW; rw [h1', h2]; rfl⟩
  ·rw [if_neg h2, q9d rfl]
   have h2' : (c == 9) = false := by simpa using h2
   exact ⟨_, by unfold isW; rw [h1', h2']; rfl⟩
noncomputable def q4r (text : Array Nat) : Nat -> Nat -> Nat
 | 0, _ => 0
 | n + 1, p => if isW (text.getD p 0) then q4r text n (p + 1) + 1 else 0
theorem qe5 (text : Array Nat) : ∀ (n p found : Nat) (seen : Seen), ∃ seen', Sre.run wsCode text 11 n p found seen = .ok (found + q4r text n p, seen')
 | 0, p, found, seen => ⟨seen, rfl⟩
 | n + 1, p, found, seen => by
  (refine E_e (q9g (text.getD p 0) seen) fun s1 e1 => ?_)
  unfold Sre.run q4r
  rw [e1]
  cases h : isW (text.getD p 0) with
  | false => exact ⟨s1, rfl⟩
  | true =>
   (refine E_e (qe5 text n (p + 1) (found + 1) s1) fun s2 e2 => ?_)
   exact ⟨s2, by
    show Sre.run wsCode text 11 n (p + 1) (found + 1) s1 = _
    rw [e2, if_pos rfl, Nat.add_assoc, Nat.add_comm 1]⟩
noncomputable abbrev stA (text : Array Nat) (lim s : Nat) (first : Bool) (seen : Seen) (marks : Array (Option Nat)) : M :=
 { code := wsCode, text, lim, start := s, lastStart := lim, pc := 5, pos := s, handed := s, outermost := first, marks, frames := [{ wait := .nextStart, pc := 5, pos := s, outermost := first }], weight := 1, seen }
noncomputable abbrev stB (text : Array Nat) (lim s : Nat) (first : Bool) (seen : Seen) (marks : Array (Option Nat)) : M :=
 { stA text lim s first seen marks with pc := 7, marks := marks.setIfInBounds 0 (some s), lastmark := 0 }
theorem qa4 (text : Array Nat) (lim s : Nat) (first : Bool) (seen : Seen) (marks : Array (Option Nat)) : ∃ seen', (stA text lim s first seen marks).step = stB text lim s first seen' marks := ⟨_, rfl⟩
noncomputable abbrev stBf (text : Array Nat) (lim s : Nat) (first : Bool) (seen : Seen) (marks : Array (Option Nat)) : M :=
 { stB text lim s first seen marks with answer := some false }
theorem qer {lim s : Nat} (h : lim <= s) : (((1 : Nat) : Int) > (lim : Int) - (s : Int)) := by exact o151 h
theorem q9q (text : Array Nat) (lim s : Nat) (first : Bool) (seen : Seen) (marks : Array (Option Nat)) (h : lim <= s) : ∃ seen', (stB text lim s first seen marks).step = stBf text lim s first seen' marks := by
 refine ⟨seen.add 24, ?_⟩
 show (if (((1 : Nat) : Int) > (lim : Int) - (s : Int)) then _ else _) = _
 rw [if_pos (qer h)]
 rfl
noncomputable abbrev stC (text : Array Nat) (lim s : Nat) (first : Bool) (seen : Seen) (marks : Array (Option Nat)) (n : Nat) : M :=
 { stB text lim s first seen marks with pc := 19, pos := s + n, handed := s + n, frames := [{ wait := .giveBack, pc := 7, pos := s + n, outermost := first, count := n, kept := { lastmark := 0 } }, { wait := .nextStart, pc := 5, pos := s, outermost := first }], weight := 2 }
theorem qdy (text : Array Nat) (lim s : Nat) (first : Bool) (seen : Seen) (marks : Array (Option Nat)) (h : s < lim) (n : Nat) (hn : q4r text (min 4294967295 (lim - s)) s = n) :
  ∃ seen', (stB text lim s first seen marks).step = if n = 0 then stBf text lim s first seen' marks else stC text lim s first seen' marks n := by
 (refine E_e (qe5 text (min 4294967295 ((lim : Int) - (s : Int)).toNat) s 0 ((seen.add 24).add 13)) fun s1 e1 => ?_)
 have et : ((lim : Int) - (s : Int)).toNat = lim - s := by exact o186
 rw [et, hn, Nat.zero_add] at e1
 refine ⟨s1, ?_⟩
 show (if (((1 : Nat) : Int) > (lim : Int) - (s : Int)) then _ else _) = _
 rw [if_neg (by exact o161 h)]
 show (match Sre.run wsCode text 11 (min 4294967295 ((lim : Int) - (s : Int)).toNat) s 0 ((seen.add 24).add 13) with | .error why => _ | .ok (n, seen) => _) = _
 rw [et, e1]
 show (if n < 1 then _ else _) = _
 by_cases hz : n = 0
 ·rw [if_pos (by exact o35 hz), if_pos hz]
  rfl
 ·rw [if_neg (by exact o63 hz), if_neg hz]
  rfl
theorem qgq (text : Array Nat) (lim s : Nat) (first : Bool) (seen : Seen) (marks : Array (Option Nat)) (h : s < lim) : (stBf text lim s first seen marks).step = stA text lim (s + 1) false seen (marks.setIfInBounds 0 (some s)) := by
 show (if s < lim then _ else _) = _
 rw [if_pos h]
 rfl
noncomputable abbrev qga (text : Array Nat) (lim s : Nat) (first : Bool) (seen : Seen) (marks : Array (Option Nat)) : M :=
 { stB text lim s first seen marks with pc := 5, frames := [], weight := 0, answer := some false }
theorem q9b (text : Array Nat) (lim s : Nat) (first : Bool) (seen : Seen) (marks : Array (Option Nat)) (h : ¬ s < lim) : (stBf text lim s first seen marks).step = qga text lim s first seen marks := by
 show (if s < lim then _ else _) = _
 rw [if_neg h]
 rfl
theorem qf5 (text : Array Nat) (lim s : Nat) (first : Bool) (seen : Seen) (marks : Array (Option Nat)) : (qga text lim s first seen marks).step.outcome = some .failed := rfl
noncomputable abbrev stD (text : Array Nat) (lim s : Nat) (first : Bool) (seen : Seen) (marks : Array (Option Nat)) (n : Nat) (li : Int) : M :=
 { stC text lim s first seen marks n with pc := 21, marks := (marks.setIfInBounds 0 (some s)).setIfInBounds 1 (some (s + n)), lastmark := 1, lastindex := li }
theorem qgu (text : Array Nat) (lim s : Nat) (first : Bool) (seen : Seen) (marks : Array (Option Nat)) (n : Nat) : ∃ seen' li, (stC text lim s first seen marks n).step = stD text lim s first seen' marks n li := ⟨_, _, rfl⟩
theorem qgb (text : Array Nat) (lim s : Nat) (first : Bool) (seen : Seen) (marks : Array (Option Nat)) (n : Nat) (li : Int) : ∃ seen', (stD text lim s first seen marks n li).step = { stD text lim s first seen' marks n li with answer := some true } := by
 cases first <;> exact ⟨_, rfl⟩
theorem qfu (text : Array Nat) (lim s : Nat) (first : Bool) (seen : Seen) (marks : Array (Option Nat)) (n : Nat) (li : Int) :
  (({ stD text lim s first seen marks n li with answer := some true } : M).step.step.step).outcome = some .matched /\ (({ stD text lim s first seen marks n li with answer := some true } : M).step.step.step).start = s
  /\ (({ stD text lim s first seen marks n li with answer := some true } : M).step.step.step).handed = s + n /\ (({ stD text lim s first seen marks n li with answer := some true } : M).step.step.step).lastmark = 1
  /\ (({ stD text lim s first seen marks n li with answer := some true } : M).step.step.step).marks = (marks.setIfInBounds 0 (some s)).setIfInBounds 1 (some (s + n))
  /\ (({ stD text lim s first seen marks n li with answer := some true } : M).step.outcome = none) /\ (({ stD text lim s first seen marks n li with answer := some true } : M).step.step.outcome = none) := ⟨rfl, rfl, rfl, rfl, rfl, rfl, rfl⟩
theorem q0c {n : Nat} {m : M} (h : m.outcome = none) : M.runFor (n + 1) m = M.runFor n m.step := by
 rw [M.runFor, h]
 rfl
theorem q0u : ∀ (a b : Nat) (m : M), M.runFor (a + b) m = M.runFor b (M.runFor a m)
 | 0, b, m => by rw [Nat.zero_add]; rfl
 | a + 1, b, m => by
  rw [Nat.add_right_comm, M.runFor, M.runFor]
  cases h : m.outcome with
  | none => exact q0u a b m.step
  | some o =>
   show m = M.runFor b m
   cases b with
   | zero => rfl
   | succ b => rw [M.runFor, h]; rfl
noncomputable def qgj (m : M) (s e : Nat) : Prop := m.outcome = some .matched /\ m.start = s /\ m.handed = e /\ m.lastmark = 1 /\ m.marks = #[some s, some e]
theorem q9c (text : Array Nat) (lim s : Nat) (first : Bool) (seen : Seen) (marks : Array (Option Nat)) (hm : marks.size = 2) (h : s < lim) (n : Nat) (hn : q4r text (min 4294967295 (lim - s)) s = n) (hz : n ≠ 0) :
  qgj (M.runFor 7 (stA text lim s first seen marks)) s (s + n) := by
 (refine E_e (qa4 text lim s first seen marks) fun s1 e1 => ?_)
 (refine E_e (qdy text lim s first s1 marks h n hn) fun s2 e2 => ?_)
 rw [if_neg hz] at e2
 (refine E_ee (qgu text lim s first s2 marks n) fun s3 li e3 => ?_)
 (refine E_e (qgb text lim s first s3 marks n li) fun s4 e4 => ?_)
 (refine q5p (qfu text lim s first s4 marks n li) fun g1 g2 g3 g4 g5 g6 g7 => ?_)
 rw [q0c rfl, e1, q0c rfl, e2, q0c rfl, e3, q0c rfl, e4, q0c rfl, q0c g6, q0c g7]
 refine ⟨g1, g2, g3, g4, ?_⟩
 show M.marks _ = _
 refine g5.trans ?_
 obtain ⟨l⟩ := marks
 match l, hm with
 | [a, b], _ => rfl
theorem qdb (text : Array Nat) (lim s : Nat) (first : Bool) (seen : Seen) (marks : Array (Option Nat)) (h : s < lim) (hn : isW (text.getD s 0) = false) :
  ∃ seen', M.runFor 3 (stA text lim s first seen marks) = stA text lim (s + 1) false seen' (marks.setIfInBounds 0 (some s)) := by
 (refine E_e (qa4 text lim s first seen marks) fun s1 e1 => ?_)
 have h0 : q4r text (min 4294967295 (lim - s)) s = 0 := by
  (refine E_e (⟨min 4294967295 (lim - s) - 1, by exact o158 h⟩ : ∃ k, min 4294967295 (lim - s) = k + 1) fun k hk => ?_)
  rw [hk, q4r, hn]
  rfl
 (refine E_e (qdy text lim s first s1 marks h 0 h0) fun s2 e2 => ?_)
 rw [if_pos rfl] at e2
 refine ⟨s2, ?_⟩
 rw [q0c rfl, e1, q0c rfl, e2, q0c rfl, qgq _ _ _ _ _ _ h]
 rfl
theorem qc2 (text : Array Nat) (lim s : Nat) (first : Bool) (seen : Seen) (marks : Array (Option Nat)) (h : ¬ s < lim) : (M.runFor 4 (stA text lim s first seen marks)).outcome = some .failed := by
 (refine E_e (qa4 text lim s first seen marks) fun s1 e1 => ?_)
 (refine E_e (q9q text lim s first s1 marks (by exact Nat.le_of_not_lt h)) fun s2 e2 => ?_)
 rw [q0c rfl, e1, q0c rfl, e2, q0c rfl, q9b _ _ _ _ _ _ h, q0c rfl]
 exact qf5 ..
theorem q79 (text : Array Nat) (lim : Nat) : ∀ (j s : Nat) (first : Bool) (seen : Seen) (marks : Array (Option Nat)), marks.size = 2 -> s + j <= lim -> (∀ i, s <= i -> i < s + j -> isW (text.getD i 0) = false) →
  ∃ first' seen' marks', marks'.size = 2 /\ M.runFor (3 * j) (stA text lim s first seen marks) = stA text lim (s + j) first' seen' marks'
 | 0, s, first, seen, marks, hm, _, _ => ⟨first, seen, marks, hm, rfl⟩
 | j + 1, s, first, seen, marks, hm, hl, hw => by
  (refine E_e (qdb text lim s first seen marks (by exact Nat.lt_of_le_of_lt (Nat.le_add_right _ _) hl) (hw s (Nat.le_refl _) (by exact o191))) fun s1 e1 => ?_)
  (refine q2u (q79 text lim j (s + 1) false s1 (marks.setIfInBounds 0 (some s)) (by simpa using hm) (by exact o200 hl) fun i a b => hw i (by exact Nat.le_of_lt a) (by exact o213 b)) fun f2 s2 m2 h2 e2 => ?_)
  refine ⟨f2, s2, m2, h2, ?_⟩
  rw [show 3 * (j + 1) = 3 + 3 * j by exact Nat.add_comm _ _, q0u, e1, e2]
  rw [show s + 1 + j = s + (j + 1) by exact Nat.add_right_comm _ _ _]
theorem q8r (text : Array Nat) : ∀ (k n p : Nat), k <= n -> (∀ i, p <= i -> i < p + k -> isW (text.getD i 0) = true) -> (k = n ∨ isW (text.getD (p + k) 0) = false) -> q4r text n p = k
 | 0, 0, p, _, _, _ => rfl
 | 0, n + 1, p, _, _, h => by
  rcases h with h | h
  ·cases h
  ·rw [q4r, show isW (text.getD p 0) = false from h]
   rfl
 | k + 1, 0, p, h, _, _ => by exact absurd h (Nat.not_lt_zero _)
 | k + 1, n + 1, p, h, hw, he => by
  rw [q4r, hw p (Nat.le_refl _) (by exact o191), if_pos rfl, q8r text k n (p + 1) (by exact Nat.le_of_lt_succ h) (fun i a b => hw i (by exact Nat.le_of_lt a) (by exact o213 b)) ?_]
  rcases he with he | he
  ·exact .inl (by exact o103 he)
  ·exact .inr (by rw [show p + 1 + k = p + (k + 1) by exact Nat.add_right_comm _ _ _]; exact he)
noncomputable abbrev q28 (text : Array Nat) (start : Nat) : M := Sre.forSearch wsCode text 1 start text.size false
theorem q3m (text : Array Nat) (start : Nat) (h : start < text.size) : ∃ seen, q28 text start = stA text text.size start true seen #[none, none] := by
 refine ⟨({} : Seen).add 14, ?_⟩
 show (if (decide (start > text.size) || decide (text.size - start < 1)) = true then _ else _) = _
 rw [if_neg (by simp; exact o136 h)]
 rfl
theorem q6u (text : Array Nat) (start j k : Nat) (hk : 0 < k) (hl : start + j + k < text.size) (h1 : ∀ i, start <= i -> i < start + j -> isW (text.getD i 0) = false) (h2 : ∀ i, start + j <= i -> i < start + j + k -> isW (text.getD i 0) = true)
  (h3 : isW (text.getD (start + j + k) 0) = false) (hsz : text.size < 4294967295) : qgj (M.runFor (3 * j + 7) (q28 text start)) (start + j) (start + j + k) := by
 (refine E_e (q3m text start (by exact o262 hl)) fun seen e => ?_)
 (refine q2u (q79 text text.size j start true seen #[none, none] rfl (by exact o261 hl) h1) fun f2 s2 m2 hm e2 => ?_)
 rw [e, q0u, e2]
 refine q9c text text.size (start + j) f2 s2 m2 hm (by exact Nat.lt_of_le_of_lt (Nat.le_add_right _ _) hl) k (q8r text k _ _ (by exact o263 hl hsz) h2 (.inr h3)) (by exact Nat.ne_of_gt hk)
theorem q7m (text : Array Nat) (start : Nat) (h : start < text.size) (h1 : ∀ i, start <= i -> i < text.size -> isW (text.getD i 0) = false) : (M.runFor (3 * (text.size - start) + 4) (q28 text start)).outcome = some .failed := by
 (refine E_e (q3m text start h) fun seen e => ?_)
 (refine q2u (q79 text text.size (text.size - start) start true seen #[none, none] rfl (by exact o133 h) (fun i a b => h1 i a (by exact o243 h b))) fun f2 s2 m2 hm e2 => ?_)
 rw [e, q0u, e2]
 exact qc2 text text.size _ f2 s2 m2 (by exact o193)
end
section
open PySem PySem.W PyProof.Rows PySem.Calls
section
section
variable {prog : Program} {w : World} {A : Around} {E : Value -> Shared -> Prop} {s : Shared}
structure Zip1 (z TI TO it l : Addr) : Prop where
 TIz : TI ≠ z
 TOz : TO ≠ z
 itz : it ≠ z
 TITO : TI ≠ TO
 TIit : TI ≠ it
 TOit : TO ≠ it
 lz : l ≠ z
 lTO : l ≠ TO
 lit : l ≠ it
theorem qbt {z TI TO it l : Addr} {k : Nat} {xs : Array Value} {x y a b : Value} {Q : Option Value -> Shared -> Prop} (D : Zip1 z TI TO it l)
  (hz : IsZip s.heap z TI TO .none) (hTI : IsPair s.heap TI (.ref it) (.ref it)) (hTO : IsPair s.heap TO a b) (h1 : s.heap.IsListIter it l k) (hl : s.heap.IsList l xs) (hx : xs[k]? = some x) (hy : xs[k + 1]? = some y)
  (hQ : ∀ h', IsZip h' z TI TO (rawInt s.heap.objs.size) -> IsPair h' TO x y -> h'.IsListIter it l (k + 1 + 1) -> IsPair h' s.heap.objs.size x y -> h'.objs.size = s.heap.objs.size + 1 →
   (∀ c o, c ≠ z -> c ≠ TO -> c ≠ it -> s.heap.get? c = some o -> h'.get? c = some o) -> Q (some (.ref s.heap.objs.size)) { s with heap := h' }) :
  wpAny (model prog w) A (pyNext (.ref z)) Q E s := by
 have hT : s.TypeIs (.ref z) "zip" := ⟨_, hz, rfl⟩
 unfold pyNext
 refine wpAny_bind (wpAny_attempt (wpAny_callSpecial?_slot (name := Str.ofString "__next__") hT PySem.F.slot_zip_next (wpAny_call_entry PySem.F.slot_zip_next hT PySem.F.entry_zip_next ?_ (PySem.F.args_zip_next_1 _))))
 show wpAny _ _ (field (.ref z) 2 >>= _) _ _ _
 refine wpAny_bind (wpAny_field hz rfl (x := .bool false) rfl ?_)
 show wpAny _ _ (field (.ref z) 3 >>= _) _ _ _
 refine wpAny_bind (wpAny_field hz rfl (x := .ref TI) rfl ?_)
 refine wpAny_bind (wpAny_seqItems hTI rfl ?_)
 show wpAny _ _ (Builtin.SmallTypes.ownedTupleIsFree (.ref z) >>= _) _ _ _
 refine wpAny_bind ?_
 unfold Builtin.SmallTypes.ownedTupleIsFree
 refine wpAny_bind (wpAny_field hz rfl (x := .none) rfl (wpAny_pure ?_))
 simp only [if_true]
 refine wpAny_bind (wpAny_rule ?_)
 refine wpAny_bind (wpAny_field hz rfl (x := .ref TO) rfl ?_)
 refine wpAny_bind (wpAny_setField_rec hz (by simp) fun h₁ hz₁ hs₁ => ?_)
 replace hz₁ : IsZip h₁ z TI TO .ellipsis := hz₁
 refine wpAny_bind ?_
 simp only [List.zipIdx_cons, List.zipIdx_nil, List.forIn_cons, List.forIn_nil]
 refine wpAny_bind (wpAny_bind (wpAny_onRaise ?_))
 show wpAny _ _ (Builtin.SmallTypes.nextOf (.ref it) >>= _) _ _ _
 refine wpAny_bind (wpAny_nextOf_list_item (h1.extBut hs₁.extBut D.itz) (hl.extBut hs₁.extBut D.lz) hx fun h₂ h1₂ hs₂ => wpAny_pure ?_)
 have hTO₂ : IsPair h₂ TO a b := hs₂.extBut _ _ D.TOit (hs₁.extBut _ _ D.TOz hTO)
 refine wpAny_bind (wpAny_seqItems hTO₂ rfl ?_)
 refine wpAny_bind (wpAny_updateSeq_pair hTO₂ fun h₃ hTO₃ hs₃ => ?_)
 replace hTO₃ : IsPair h₃ TO x b := hTO₃
 refine wpAny_bind (wpAny_letGo (wpAny_pure ?_))
 refine wpAny_bind (wpAny_bind (wpAny_onRaise ?_))
 show wpAny _ _ (Builtin.SmallTypes.nextOf (.ref it) >>= _) _ _ _
 refine wpAny_bind (wpAny_nextOf_list_item (h1₂.extBut hs₃.extBut D.TOit.symm) (((hl.extBut hs₁.extBut D.lz).extBut hs₂.extBut D.lit).extBut hs₃.extBut D.lTO) hy fun h₄ h2₄ hs₄ => wpAny_pure ?_)
 have hTO₄ : IsPair h₄ TO x b := hs₄.extBut _ _ D.TOit hTO₃
 refine wpAny_bind (wpAny_seqItems hTO₄ rfl ?_)
 refine wpAny_bind (wpAny_updateSeq_pair hTO₄ fun h₅ hTO₅ hs₅ => ?_)
 replace hTO₅ : IsPair h₅ TO x y := hTO₅
 refine wpAny_bind (wpAny_letGo (wpAny_pure (wpAny_pure ?_)))
 refine wpAny_bind (wpAny_seqItems hTO₅ rfl ?_)
 refine wpAny_bind (wpAny_newTuple ?_)
 have hsz : h₅.objs.size = s.heap.objs.size := by rw [hs₅.1, hs₄.1, hs₃.1, hs₂.1, hs₁.1]
 have hz₅ : IsZip h₅ z TI TO .ellipsis := hs₅.extBut _ _ D.TOz.symm (hs₄.extBut _ _ D.itz.symm (hs₃.extBut _ _ D.TOz.symm (hs₂.extBut _ _ D.itz.symm hz₁)))
 have hk₅ : ∀ c o, c ≠ z -> c ≠ TO -> c ≠ it -> s.heap.get? c = some o -> h₅.get? c = some o := fun c o c1 c2 c3 e =>
  hs₅.extBut _ _ c2 (hs₄.extBut _ _ c3 (hs₃.extBut _ _ c2 (hs₂.extBut _ _ c3 (hs₁.extBut _ _ c1 e))))
 have h1₅ : h₅.IsListIter it l (k + 1 + 1) := h2₄.extBut hs₅.extBut D.TOit.symm
 have hzlt : z < h₅.objs.size := Heap.lt_size hz₅
 show wpAny _ _ (Builtin.SmallTypes.ownedTupleHandOut (.ref z) (.ref h₅.objs.size) >>= _) _ _ _
 refine wpAny_bind ?_
 unfold Builtin.SmallTypes.ownedTupleHandOut
 have hz₆ : IsZip (h₅.push { cls := .type "tuple", data := .seq #[x, y] }) z TI TO .ellipsis := Heap.get?_push_of_some _ hz₅
 refine wpAny_bind (wpAny_setField_rec hz₆ (by simp) fun h₇ hz₇ hs₇ => ?_)
 replace hz₇ : IsZip h₇ z TI TO (rawInt h₅.objs.size) := hz₇
 refine wpAny_setField_rec hz₇ (by simp) fun h₈ hz₈ hs₈ => ?_
 replace hz₈ : IsZip h₈ z TI TO (rawInt h₅.objs.size) := hz₈
 have up : ∀ c o, c ≠ z -> h₅.get? c = some o -> h₈.get? c = some o := fun c o c1 e => hs₈.extBut _ _ c1 (hs₇.extBut _ _ c1 (Heap.get?_push_of_some _ e))
 have hT₈ : IsPair h₈ h₅.objs.size x y := hs₈.extBut _ _ (Nat.ne_of_gt hzlt) (hs₇.extBut _ _ (Nat.ne_of_gt hzlt) (Heap.get?_push_size _ rfl))
 have hz8 : h₈.objs.size = h₅.objs.size + 1 := by rw [hs₈.1, hs₇.1, Heap.size_push]
 rw [hsz] at hz₈ hT₈ hz8
 refine wpAny_pure ⟨_, rfl, ?_⟩
 refine wpAny_pure ?_
 show Q (some (.ref h₅.objs.size)) _
 rw [hsz]
 exact hQ h₈ hz₈ (up _ _ D.TOz hTO₅) (h1₅.at fun o e => up _ o D.itz e) hT₈ hz8 fun c o c1 c2 c3 e => up c o c1 (hk₅ c o c1 c2 c3 e)
theorem qdg {z TI TO it l : Addr} {k : Nat} {xs : Array Value} {a b : Value} {Q : Option Value -> Shared -> Prop} (hh : A.handled = none) (D : Zip1 z TI TO it l)
  (hz : IsZip s.heap z TI TO .none) (hTI : IsPair s.heap TI (.ref it) (.ref it)) (_hTO : IsPair s.heap TO a b) (h1 : s.heap.IsListIter it l k) (hl : s.heap.IsList l xs) (hx : xs[k]? = none)
  (hQ : ∀ h', (∀ c o, c ≠ z -> c ≠ TO -> c ≠ it -> s.heap.get? c = some o -> h'.get? c = some o) -> Q none { s with heap := h' }) :
  wpAny (model prog w) A (pyNext (.ref z)) Q E s := by
 have hT : s.TypeIs (.ref z) "zip" := ⟨_, hz, rfl⟩
 unfold pyNext
 refine wpAny_bind (wpAny_attempt (wpAny_callSpecial?_slot (name := Str.ofString "__next__") hT PySem.F.slot_zip_next (wpAny_call_entry PySem.F.slot_zip_next hT PySem.F.entry_zip_next ?_ (PySem.F.args_zip_next_1 _))))
 show wpAny _ _ (field (.ref z) 2 >>= _) _ _ _
 refine wpAny_bind (wpAny_field hz rfl (x := .bool false) rfl ?_)
 show wpAny _ _ (field (.ref z) 3 >>= _) _ _ _
 refine wpAny_bind (wpAny_field hz rfl (x := .ref TI) rfl ?_)
 refine wpAny_bind (wpAny_seqItems hTI rfl ?_)
 show wpAny _ _ (Builtin.SmallTypes.ownedTupleIsFree (.ref z) >>= _) _ _ _
 refine wpAny_bind ?_
 unfold Builtin.SmallTypes.ownedTupleIsFree
 refine wpAny_bind (wpAny_field hz rfl (x := .none) rfl (wpAny_pure ?_))
 simp only [if_true]
 refine wpAny_bind (wpAny_rule ?_)
 refine wpAny_bind (wpAny_field hz rfl (x := .ref TO) rfl ?_)
 refine wpAny_bind (wpAny_setField_rec hz (by simp) fun h₁ hz₁ hs₁ => ?_)
 replace hz₁ : IsZip h₁ z TI TO .ellipsis := hz₁
 refine wpAny_bind ?_
 simp only [List.zipIdx_cons, List.zipIdx_nil, List.forIn_cons, List.forIn_nil]
 refine wpAny_bind (wpAny_bind (wpAny_onRaise ?_))
 show wpAny _ _ (Builtin.SmallTypes.nextOf (.ref it) >>= _) _ _ _
 refine wpAny_bind (wpAny_nextOf_list_end hh (h1.extBut hs₁.extBut D.itz) (hl.extBut hs₁.extBut D.lz) hx fun h₂ e hs₂ he => ?_)
 (refine E_ea he fun oe hoe hce => ?_; (try clear he))
 have hz₂ : IsZip h₂ z TI TO .ellipsis := hs₂ _ _ D.itz.symm hz₁
 have hez : e ≠ z := fun x => by subst x; rw [hz₂] at hoe; cases hoe; simp at hce
 refine wpAny_setField_rec hz₂ (by simp) fun h₃ _ hs₃ => ?_
 refine wpAny_bind (wpAny_isInstance (T := "StopIteration") (b := true) ⟨oe, hs₃.extBut _ _ hez hoe, hce⟩ isSubtype_stop ?_)
 exact wpAny_pure (hQ _ fun c o c1 _ c3 x => hs₃.extBut _ _ c1 (hs₂ _ _ c3 (hs₁.extBut _ _ c1 x)))
end
noncomputable abbrev zH1 (h : Heap) (it : Addr) : Heap := h.push { cls := .type "tuple", data := .seq #[.ref it, .ref it] }
noncomputable abbrev zH2 (h : Heap) (it : Addr) : Heap := (zH1 h it).push { cls := .type "tuple", data := .seq #[.none, .none] }
noncomputable abbrev zH3 (h : Heap) (it : Addr) : Heap := (zH2 h it).push { cls := .type "zip", data := .fields #[.none, .bool false, .bool false, .ref h.objs.size, .ref (zH1 h it).objs.size] }
theorem q9j (it l : Addr) : Meets (Builtin.«zip.__new__» ⟨[.type "zip", .ref it, .ref it], []⟩) (fun _ R s => s.heap.IsListIter it l 0 /\ R (.ok (.ret (.ref (zH2 s.heap it).objs.size))) { s with heap := zH3 s.heap it }) :=
 .of_wp fun prog w A R s h => by
  obtain ⟨hp, g, d, tk, os⟩ := s; obtain ⟨hl1, h⟩ := h
  have hsub := sub_zip
  have hL1 : Heap.IsListIter (Shared.heap ⟨hp, g, d, tk, os⟩) it l 0 := hl1
  wp_walk using wpAny_pyIter_listiter hL1, wpAny_pyIter_listiter hL1
  exact ⟨_, rfl, h⟩
section
variable {prog : Program} {w : World} {A : Around} {E : Value -> Shared -> Prop} {s : Shared} {h₀ : Heap} {L : Addr} {m : Str -> Option Value} {news : List (Addr × Obj)}
theorem qab {it l : Addr} {Q : Value -> Shared -> Prop} (F : Fr h₀ L s.heap m) (N : News h₀ L s.heap news) (hI : s.heap.IsListIter it l 0)
  (h : ∀ h' z TI TO, Fr h₀ L h' m -> News h₀ L h' ((z, { cls := .type "zip", dict := none, data := .fields #[.none, .bool false, .bool false, .ref TI, .ref TO], slots := #[] }) :: (TO, { cls := .type "tuple", data := .seq #[.none, .none] }) :: (TI, { cls := .type "tuple", data := .seq #[.ref it, .ref it] }) :: news) →
   (∀ p ∈ news, p.1 < TI) -> @LT.lt Nat _ TI TO -> @LT.lt Nat _ TO z -> Q (.ref z) { s with heap := h' }) :
  wpAny (model prog w) A (call (.type "zip") [.ref it, .ref it]) Q E s := by
 refine callType_new PySem.F.called_zip (by decide) (PySem.F.typeCall_zip_2 _ _) (PySem.F.newCall_zip_2 _ _) (fun obj => PySem.F.args_object_init_3 obj _ _) PySem.F.entry_zip_new
  (q9j it l) ⟨hI, ?_⟩
 have N1 := N.push F { cls := .type "tuple", data := .seq #[.ref it, .ref it] }
 have F1 := F.push { cls := .type "tuple", data := .seq #[.ref it, .ref it] }
 have N2 := N1.push F1 { cls := .type "tuple", data := .seq #[.none, .none] }
 have F2 := F1.push { cls := .type "tuple", data := .seq #[.none, .none] }
 have N3 := N2.push F2 { cls := .type "zip", data := .fields #[.none, .bool false, .bool false, .ref s.heap.objs.size, .ref (zH1 s.heap it).objs.size] }
 have F3 := F2.push { cls := .type "zip", data := .fields #[.none, .bool false, .bool false, .ref s.heap.objs.size, .ref (zH1 s.heap it).objs.size] }
 refine ⟨⟨_, (N3 _ (.head _)).1, rfl⟩, h _ _ _ _ F3 ?_ (fun p hp => Heap.lt_size (N p hp).1) (by show s.heap.objs.size < (zH1 s.heap it).objs.size; rw [Heap.size_push]; exact Nat.lt_succ_self _) (by show (zH1 s.heap it).objs.size < (zH2 s.heap it).objs.size; rw [Heap.size_push (h := zH1 s.heap it)]; exact Nat.lt_succ_self _)⟩
 exact N3
end
end
example : True := by
 k_with_none
 k_with "omega" => (first | assumption | exact Nat.le_refl _ | exact Nat.ne_of_lt (by assumption) | exact Nat.ne_of_gt (by assumption) | exact Nat.le_of_lt (by assumption) | lia)
 trivial
section
section
variable {prog : Program} {w : World} {A : Around} {E : Value -> Shared -> Prop} {s : Shared}
theorem qb1 (a b : Value) : argsOk "sum" ⟨[a, b], []⟩ := by unfold argsOk; kernel_rfl
noncomputable def qbm {α : Type} (P : Nat -> α -> Prop) (i : Nat) (v : α) : Prop := match i with | 0 => False | j + 1 => P j v
theorem q56 {I : Addr} {fp wr : List Addr} {G : Array GenState -> Array GenState -> Prop} {n : Nat} {P : Nat -> Value -> Prop} {St : Nat -> Shared -> Prop} (W : WalksS prog w A I fp wr G n P St) :
  WalksS prog w A I fp wr G (n + 1) (qbm P) (qbm St) where
 sub := W.sub
 grefl := W.grefl
 gtrans := W.gtrans
 frame := fun i s h' tk st ht hk => match i, st with | j + 1, st => W.frame j s h' tk st ht hk
 item := fun i s Q E hi st hQ => match i, hi, st, hQ with | j + 1, hi, st, hQ => W.item j s Q E (Nat.lt_of_succ_lt_succ hi) st hQ
 done := fun s Q E st hQ => W.done s Q E st hQ
 self := fun i s Q E st hQ => match i, st with | j + 1, st => W.self j s Q E st hQ
noncomputable def qbd (k : Int) (val : Nat -> Int) (i : Nat) : Int := match i with | 0 => k | j + 1 => val j
theorem q15 (k : Int) (val : Nat -> Int) : ∀ j, preSum (qbd k val) (j + 1) = k + preSum val j
 | 0 => by show 0 + k = k + 0; exact Int.add_comm _ _
 | j + 1 => by
  have h := q15 k val j
  show preSum (qbd k val) (j + 1) + val j = k + (preSum val j + val j)
  rw [h]; exact Int.add_assoc _ _ _
theorem qa2 {x : Value} {k : Int} {tk : Tok} {Q : Value -> Shared -> Prop} (hk : InLong k)
  (h : wpAny (model prog w) A.in1 (pyIter x) (fun it s₂ => ∃ I fp wr G n P St val, it = .ref I /\ WalksS prog w A.in1 I fp wr G n P St /\ St 0 s₂ /\ (∀ b ∈ fp, b < s₂.heap.objs.size) /\
   (∀ i v, P i v -> ∃ t, v = .int (val i) t) /\ (∀ j, j < n -> InLong (val j) /\ InLong (k + preSum val (j + 1))) /\
   ∀ s' t', Moved wr G s₂ s' -> Q (.int (k + preSum val n) t') s') E s) :
  wpAny (model prog w) A (call (.builtin "sum") [x, .int k tk]) Q E s := by
 refine call_function_tree PySem.F.kind_sum PySem.F.plain_sum PySem.F.entry_sum (qb1 _ _) ?_
 unfold Builtin.«sum»
 simp only [List.length_cons, List.length_nil]
 rw [if_neg (by decide)]
 refine wpAny_bind (wpAny_of_eq (show Builtin.Builtins.bindParams "sum" ["start"] 0 ⟨[.int k tk], []⟩ = pure [some (.int k tk)] from rfl) ?_)
 refine wpAny_bind (wpAny_mono h (fun it s₂ h₂ => ?_) fun _ _ e => e)
 (refine q3v h₂ fun I fp wr G n P St val z1z W hst hfp hval hfit hQ => ?_; (try clear h₂); subst z1z)
 (refine E_a (id hk) fun ka kb => ?_)
 show wpAny _ _ (if (decide (-(2 ^ 63) <= k) && decide (k < 2 ^ 63)) = true then _ else _) _ _ _
 rw [if_pos (by simp only [Bool.and_eq_true, decide_eq_true_eq]; exact ⟨ka, kb⟩)]
 refine wpAny_bind (wpAny_rule (wpAny_bind (wpAny_mkInt (wpAny_bind (wpAny_pure ?_)))))
 simp only [List.forIn_cons, List.forIn_nil]
 refine wpAny_bind (wpAny_bind (wpAny_bind (wpAny_isInstance (T := "int") (b := false) (typeIs_int _ _ _) PySem.sub_int_str ?_)))
 simp only [Bool.false_eq_true, if_false]
 refine wpAny_pure (wpAny_bind (wpAny_bind (wpAny_isInstance (T := "int") (b := false) (typeIs_int _ _ _) PySem.sub_int_bytes ?_)))
 simp only [Bool.false_eq_true, if_false]
 refine wpAny_pure (wpAny_bind (wpAny_bind (wpAny_isInstance (T := "int") (b := false) (typeIs_int _ _ _) PySem.sub_int_bytearray ?_)))
 simp only [Bool.false_eq_true, if_false]
 refine wpAny_pure (wpAny_pure ?_)
 refine wpAny_bind (wpAny_newObj_type ?_)
 have hSf : s₂.heap.objs.size ∉ fp := fun hm => Nat.lt_irrefl _ (hfp _ hm)
 have hst' : qbm St 1 s₂ := hst
 refine wpAny_pure ⟨plainId_quiet PySem.F.plain_sum_loop _, codeAny_sum_loopS (q56 W) (qbd k val) ?_ ?_ s₂.heap.objs.size hSf n 1 _ s₂.toks 0 (by exact Nat.add_sub_cancel _ _) (by exact Nat.succ_pos _)
  ((q56 W).frame 1 s₂ _ _ hst' (by first | exact Nat.le_refl _ | exact Nat.le_succ _ | omega) fun b _ o e => Heap.get?_push_of_some _ e) ?_ fun s' t' hm => ?_⟩
 ·intro i v hv
  match i, hv with
  | j + 1, hv => exact hval j v hv
 ·intro j hj
  match j, hj with
  | 0, _ => exact ⟨hk, by rw [q15]; show InLong (k + 0); rw [Int.add_zero]; exact hk⟩
  | j + 1, hj => exact ⟨(hfit j (by exact Nat.lt_of_succ_lt_succ hj)).1, by rw [q15]; exact (hfit j (by exact Nat.lt_of_succ_lt_succ hj)).2⟩
 ·rw [q15]
  show Heap.get? _ _ = some { cls := .type "list", dict := none, data := .seq #[.int (k + 0) s₂.toks] 0, slots := #[] }
  rw [Int.add_zero]
  exact Heap.get?_push_size _ rfl
 ·rw [q15]
  exact hQ s' t' (hm.drop_new (by first | exact Nat.le_refl _ | exact Nat.le_succ _ | omega))
end
end
noncomputable abbrev q5s (lin col : Nat) (c : Addr) : Array Value := #[] ++ #[rawInt lin, rawInt col, .ref c]
noncomputable def qds (q : Str) (oc : Obj) : Prop := ∃ vs t, oc.data = .fields vs /\ vs[1]? = some (.str q t)
noncomputable def digs (n : Nat) (x : Int) : List Int := if x = 0 then [] else if x < 2 ^ n then [x] else if x < 2 ^ n * 2 ^ n then [x % 2 ^ n, x / 2 ^ n] else [x % 2 ^ n, x / 2 ^ n % 2 ^ n, x / 2 ^ n / 2 ^ n]
noncomputable abbrev q2d : Str := Str.ofString "_int2digits.<locals>.inner"
noncomputable abbrev qd2 : Str := Str.ofString "_digits2int.<locals>.inner"
theorem qaw {n x : Int} (hn : n = 6 ∨ n = 7) (h0 : 0 < x) (h1 : x < 262144) : ∃ kk : Int, ((Builtin.Int.intBits x : Int) + n - 1).fdiv n = kk /\ 1 <= kk /\ kk <= 3 /\ dg n.toNat kk x = digs n.toNat x := by
 have hz : ¬ Builtin.Int.intBits x <= 0 := fun h => by have h3 : x.natAbs < 1 := PySem.intBits_le_iff.mp h; exact (o324 h0 h3).elim
 have e18 : Builtin.Int.intBits x <= 18 := PySem.intBits_le_iff.mpr (by exact o328 h0 h1)
 have e6 : Builtin.Int.intBits x <= 6 ↔ x < 64 := ⟨fun h => by have h3 : x.natAbs < 64 := PySem.intBits_le_iff.mp h; omega, fun h => PySem.intBits_le_iff.mpr (by exact o330 h0 h)⟩
 have e7 : Builtin.Int.intBits x <= 7 ↔ x < 128 := ⟨fun h => by have h3 : x.natAbs < 128 := PySem.intBits_le_iff.mp h; omega, fun h => PySem.intBits_le_iff.mpr (by exact o326 h0 h)⟩
 have e12 : Builtin.Int.intBits x <= 12 ↔ x < 4096 := ⟨fun h => by have h3 : x.natAbs < 4096 := PySem.intBits_le_iff.mp h; omega, fun h => PySem.intBits_le_iff.mpr (by exact o329 h0 h)⟩
 have e14 : Builtin.Int.intBits x <= 14 ↔ x < 16384 := ⟨fun h => by have h3 : x.natAbs < 16384 := PySem.intBits_le_iff.mp h; omega, fun h => PySem.intBits_le_iff.mpr (by exact o327 h0 h)⟩
 generalize Builtin.Int.intBits x = b at *
 have hx : ¬ x = 0 := by exact Int.ne_of_gt h0
 rcases hn with rfl | rfl
 ·rw [Int.fdiv_eq_ediv_of_nonneg _ (by decide)]
  show ∃ kk : Int, ((b : Int) + 6 - 1) / 6 = kk /\ 1 <= kk /\ kk <= 3 /\ (if kk = 1 then [x] else if kk = 2 then [x % 64, x / 64] else [x % 64, x / 64 % 64, x / 64 / 64]) = (if x = 0 then [] else if x < 64 then [x] else if x < 4096 then [x % 64, x / 64] else [x % 64, x / 64 % 64, x / 64 / 64])
  rw [if_neg hx]
  by_cases c1 : x < 64
  ·refine ⟨1, by exact o295 hz e6 c1, by omega, by omega, ?_⟩
   rw [if_pos rfl, if_pos c1]
  rw [if_neg c1]
  by_cases c2 : x < 4096
  ·refine ⟨2, by exact o289 e6 e12 c1 c2, by omega, by omega, ?_⟩
   rw [if_neg (by decide), if_pos rfl, if_pos c2]
  ·refine ⟨3, by exact o293 e18 e12 c2, by omega, by omega, ?_⟩
   rw [if_neg (by decide), if_neg (by decide), if_neg c2]
 ·rw [Int.fdiv_eq_ediv_of_nonneg _ (by decide)]
  show ∃ kk : Int, ((b : Int) + 7 - 1) / 7 = kk /\ 1 <= kk /\ kk <= 3 /\ (if kk = 1 then [x] else if kk = 2 then [x % 128, x / 128] else [x % 128, x / 128 % 128, x / 128 / 128]) = (if x = 0 then [] else if x < 128 then [x] else if x < 16384 then [x % 128, x / 128] else [x % 128, x / 128 % 128, x / 128 / 128])
  rw [if_neg hx]
  by_cases c1 : x < 128
  ·refine ⟨1, by exact o296 hz e7 c1, by omega, by omega, ?_⟩
   rw [if_pos rfl, if_pos c1]
  rw [if_neg c1]
  by_cases c2 : x < 16384
  ·refine ⟨2, by exact o290 e7 e14 c1 c2, by omega, by omega, ?_⟩
   rw [if_neg (by decide), if_pos rfl, if_pos c2]
  ·refine ⟨3, by exact o294 e18 e14 c2, by omega, by omega, ?_⟩
   rw [if_neg (by decide), if_neg (by decide), if_neg c2]
end
section
open PySem PySem.W PyProof.Rows PySem.Calls PySem.Builtin.Re
section
theorem qa0 : PlainAttrs "re.Pattern" :=
 ⟨⟨"object.__getattribute__", by rw [typeLookup_type, builtinLookup_eq_fast]; kernel_rfl, by decide +kernel⟩, by rw [typeLookup_type, builtinLookup_eq_fast]; kernel_rfl⟩
theorem q2h : Slot "re.Pattern" "split" "re.Pattern.split" := .of (owner := "re.Pattern") (n := "split") (by rw [typeLookup_type, builtinLookup_eq_fast]; kernel_rfl) (by decide +kernel) (by decide +kernel) (by decide +kernel) (by first | exact .inl (by decide +kernel) | exact .inr (by decide +kernel)) (by rw [isSubtype_type]; kernel_rfl)
theorem q4m : entryFor table "re.Pattern.split" = some Builtin.«re.Pattern.split» := entryFor_of_tree (by kernel_rfl)
theorem q4s : typeOf (.builtin "re.Pattern.split") = pure (.type "method_descriptor") := by show builtinType _ = _; rw [builtinType_eq_fast]; kernel_rfl
theorem q4u (a b : Value) : argsOk "re.Pattern.split" ⟨[a, b], []⟩ := by unfold argsOk; kernel_rfl
theorem q7e (v : Value) : reNamed "re.Pattern.split" "split" ["string", "maxsplit"] 1 [v] [] = pure [some v, none] := by rfl
section
variable {prog : Program} {w : World} {A : Around} {E : Value -> Shared -> Prop} {s : Shared}
theorem q98 {a b : Nat} {m : Sre.M} (ha : (Sre.M.runFor a m).outcome.isSome = true) (hb : (Sre.M.runFor b m).outcome.isSome = true) : Sre.M.runFor a m = Sre.M.runFor b m := by
 have fixd : ∀ (k : Nat) (m : Sre.M), m.outcome.isSome = true -> Sre.M.runFor k m = m := by
  intro k m h
  cases k with
  | zero => rfl
  | succ k => rw [Sre.M.runFor, h]; rfl
 rcases Nat.le_total a b with h | h
 ·(refine E_e (Nat.exists_eq_add_of_le h) fun c z1z => ?_; subst z1z)
  rw [q0u, fixd c _ ha]
 ·(refine E_e (Nat.exists_eq_add_of_le h) fun c z1z => ?_; subst z1z)
  rw [q0u, fixd c _ hb]
theorem q5e {M : Model} {Q : Sre.M -> Shared -> Prop} : ∀ (turns n : Nat) (m : Sre.M), n <= 4 * turns -> (turns = 0 -> m.outcome.isSome = false) -> (Sre.M.runFor n m).outcome.isSome = true -> Q (Sre.M.runFor n m) s -> wpAny M A (reDrive turns m) Q E s
 | 0, n, m, hn, h0, hs, hq => by
  have : n = 0 := by exact Nat.eq_zero_of_le_zero hn
  subst this
  rw [show Sre.M.runFor 0 m = m from rfl, h0 rfl] at hs
  cases hs
 | turns + 1, n, m, hn, _, hs, hq => by
  unfold reDrive
  dsimp only
  by_cases h : (Sre.M.runFor reTurnSteps m).outcome.isSome = true
  ·rw [if_pos h, q98 h hs]
   exact wpAny_pure hq
  ·rw [if_neg h]
   refine wpAny_bind (wpAny_rule ?_)
   have h4 : ¬ n <= 4 := fun hle => by
    (refine E_e (Nat.exists_eq_add_of_le hle) fun c hc => ?_)
    apply h
    show (Sre.M.runFor 4 m).outcome.isSome = true
    rw [hc, q0u]
    have : ∀ (k : Nat) (m : Sre.M), m.outcome.isSome = true -> (Sre.M.runFor k m).outcome.isSome = true := by
     intro k m h
     cases k with
     | zero => exact h
     | succ k => rw [Sre.M.runFor, h]; exact h
    exact this _ _ hs
   (refine E_e (Nat.exists_eq_add_of_le (Nat.le_of_lt (Nat.lt_of_not_le h4))) fun c hc => ?_)
   rw [hc, q0u] at hs hq
   exact q5e turns c _ (by exact o251 hn hc) (fun _ => by simpa using h) hs hq
theorem q39 {M : Model} {Q : Unit -> Shared -> Prop} (c : Nat -> Bool) (f : Nat -> String) (hq : Q () s) : ∀ l : List Nat, wpAny M A (forIn l PUnit.unit fun i _ => if c i = true then (do rule (f i); pure (ForInStep.yield PUnit.unit)) else pure (ForInStep.yield PUnit.unit)) Q E s
 | [] => by rw [List.forIn_nil]; exact wpAny_pure hq
 | i :: l => by
  rw [List.forIn_cons]
  refine wpAny_bind ?_
  by_cases h : c i = true
  ·rw [if_pos h]
   exact wpAny_bind (wpAny_rule (wpAny_pure (q39 c f hq l)))
  ·rw [if_neg h]
   exact wpAny_pure (q39 c f hq l)
theorem qgv {M : Model} {Q : Option Sre.M -> Shared -> Prop} {m : Sre.M} {n : Nat} (hn : n <= 2 ^ 64) (hs : (Sre.M.runFor n m).outcome.isSome = true)
  (h1 : (Sre.M.runFor n m).outcome = some .matched -> Q (some (Sre.M.runFor n m)) s) (h2 : (Sre.M.runFor n m).outcome = some .failed -> Q none s) (h3 : ∀ w, (Sre.M.runFor n m).outcome ≠ some (.stuck w)) : wpAny M A (reRunToEnd m) Q E s := by
 unfold reRunToEnd
 refine wpAny_bind (q5e (2 ^ 64) n m (by exact o37 hn) (fun h => absurd h (by decide)) hs ?_)
 refine wpAny_bind (q39 _ _ ?_ _)
 cases e : (Sre.M.runFor n m).outcome with
 | none => rw [e] at hs; cases hs
 | some o =>
  cases o with
  | matched => exact wpAny_pure (h1 e)
  | failed => exact wpAny_pure (h2 e)
  | stuck w => exact absurd e (h3 w)
noncomputable abbrev q70 (t0 t1 : Tok) : Obj := { cls := .type "re.Pattern", data := .fields #[.str (Str.ofString "([ \t]+)") t0, .int 32 t1, .int 1 0, .none, .none, .ref 91, .int 0 0] }
noncomputable abbrev q5v : Obj := { cls := .type "tuple", data := .seq #[.int 14 0, .int 4 0, .int 0 0, .int 1 0, .int 4294967295 0, .int 17 0, .int 0 0, .int 24 0, .int 11 0, .int 1 0, .int 4294967295 0, .int 13 0, .int 6 0, .int 16 0, .int 32 0, .int 16 0, .int 9 0, .int 0 0, .int 1 0, .int 17 0, .int 1 0, .int 1 0] }
noncomputable def q02 : List (List Nat × List Nat) -> List Nat
 | [] => []
 | (w, p) :: r => w ++ (p ++ q02 r)
noncomputable def GoodC (cs : List (List Nat × List Nat)) : Prop := ∀ c ∈ cs, c.1 ≠ [] /\ (∀ a ∈ c.1, isW a = true) /\ c.2 ≠ [] /\ ∀ a ∈ c.2, isW a = false
noncomputable abbrev strL (l : List Nat) : Str := ⟨l.toArray⟩
noncomputable def q3k (q : List Nat) : List (List Nat × List Nat) -> List Str
 | [] => [strL q]
 | (w, p) :: r => strL q :: strL w :: q3k p r
theorem q4n (pre q post : List Nat) : (pre ++ (q ++ post)).toArray.extract pre.length (pre.length + q.length) = q.toArray := by
 simp [List.extract_toArray, List.extract_eq_take_drop]
theorem q5n (pre q post : List Nat) (i : Nat) (h1 : pre.length <= i) (h2 : i < pre.length + q.length) : (pre ++ (q ++ post)).toArray.getD i 0 ∈ q := by
 have h3 : i - pre.length < q.length := by exact o238 h1 h2
 have e : (pre ++ (q ++ post)).toArray[i]? = some q[i - pre.length] := by
  rw [List.getElem?_toArray, List.getElem?_append_right h1, List.getElem?_append_left h3, List.getElem?_eq_getElem h3]
 rw [Array.getD_eq_getD_getElem?, e]
 exact List.getElem_mem h3
noncomputable abbrev tgt (t : Tok) (l : List Nat) : ReTarget := { pattern := .ref 92, string := .str (strL l) t, code := wsCode, text := l.toArray, kind := 0, groups := 1, pos := 0, lim := l.toArray.size }
noncomputable abbrev q2l := Array Value × Nat × Nat × Bool × Int × Bool
noncomputable def q46 (a : ReTarget) : Nat -> q2l -> Sem (ForInStep q2l) := fun _ __s =>
 if (!__s.snd.snd.snd.snd.snd) = true then do
  let r <- if ((0 : Int) != 0 && decide (__s.snd.snd.snd.snd.fst ≥ 0)) = true then pure none else reNextFound a __s.snd.fst __s.snd.snd.snd.fst
  match r with
  | none => pure (ForInStep.yield (__s.fst, __s.snd.fst, __s.snd.snd.fst, __s.snd.snd.snd.fst, __s.snd.snd.snd.snd.fst, true))
  | some m => do
   let v <- reSlice a.text a.kind __s.snd.snd.fst m.start
   let out <- forIn (List.range a.groups) (__s.fst.push v) fun g (__s : Array Value) => do
    let v <- reMachineGroup a m (g + 1) (pure Value.none)
    pure (ForInStep.yield (__s.push v))
   pure (ForInStep.yield (out, m.handed, m.handed, m.handed == m.start, __s.snd.snd.snd.snd.fst + 1, __s.snd.snd.snd.snd.snd))
 else pure (ForInStep.yield (__s.fst, __s.snd.fst, __s.snd.snd.fst, __s.snd.snd.snd.fst, __s.snd.snd.snd.snd.fst, __s.snd.snd.snd.snd.snd))
theorem q51 {M : Model} {a : ReTarget} {o : Array Value} {b c : Nat} {mu : Bool} {n : Int} {Q : q2l -> Shared -> Prop} (hq : Q (o, b, c, mu, n, true) s) : ∀ L : List Nat, wpAny M A (forIn L ((o, b, c, mu, n, true) : q2l) (q46 a)) Q E s
 | [] => by rw [List.forIn_nil]; exact wpAny_pure hq
 | i :: L => by
  rw [List.forIn_cons]
  exact wpAny_bind (wpAny_pure (q51 hq L))
noncomputable def q5b (q : List Nat) : List (List Nat × List Nat) -> List Str
 | [] => []
 | (w, p) :: r => strL q :: strL w :: q5b p r
noncomputable def q43 (q : List Nat) : List (List Nat × List Nat) -> List Nat
 | [] => q
 | (_, p) :: r => q43 p r
theorem q19 {w p : List Nat} {r : List (List Nat × List Nat)} : q02 ((w, p) :: r) = w ++ (p ++ q02 r) := rfl
theorem q6m {M : Model} {Q : Value -> Shared -> Prop} {k : Nat} {l pre q post : List Nat} {b e : Nat} (hl : l = pre ++ (q ++ post)) (hb : b = pre.length) (he : e = pre.length + q.length) (hsz : l.length < 1000000) (hq : Q (.str (strL q) k) { s with toks := k + 1 }) :
  wpAny M A (reSlice l.toArray 0 b e) Q E { s with toks := k } := by
 subst hb he
 unfold reSlice
 rw [if_pos (by decide), hl, q4n]
 refine wpAny_mkStr hq ?_
 have : q.length <= l.length := by rw [hl]; simp; exact o258
 show q.toArray.size <= sizeLine
 have h2 : (1000000 : Nat) <= sizeLine := by decide
 simp
 exact o242 hsz this h2
theorem q53 {M : Model} {tk : Tok} {l : List Nat} {Q : q2l -> Shared -> Prop} (hsz : l.length < 1000000) : ∀ (cs : List (List Nat × List Nat)) (pre q : List Nat) (L : List Nat) (out : Array Value) (n : Int) (k : Nat), GoodC cs -> (∀ a ∈ q, isW a = false) -> (q ≠ [] ∨ cs ≠ []) -> l = pre ++ (q ++ q02 cs) -> cs.length < L.length →
  (∀ vs n' e k', StrsAre vs (q5b q cs) -> l.toArray.extract e l.length = (q43 q cs).toArray -> Q (out ++ vs.toArray, e, e, false, n', true) { s with toks := k' }) →
  wpAny M A (forIn L ((out, pre.length, pre.length, false, n, false) : q2l) (q46 (tgt tk l))) Q E { s with toks := k }
 | cs, pre, q, [], out, n, k, _, _, _, _, hL, _ => absurd hL (Nat.not_lt_zero _)
 | [], pre, q, _ :: L, out, n, k, hg, hq, hne, hl, hL, ret => by
  have hq0 : q ≠ [] := by rcases hne with h | h; exact h; exact absurd rfl h
  have hl1 : l.length = pre.length + q.length := by rw [hl]; simp [q02]
  have hq1 : 0 < q.length := List.length_pos_iff.mpr hq0
  rw [List.forIn_cons]
  refine wpAny_bind ?_
  have hns := q7m l.toArray pre.length (by simp; exact o233 hl1 hq1) (fun i h1 h2 => by
   have := q5n pre q (q02 []) i h1 (by simp at h2; exact o277 hl1 h2)
   rw [<- hl] at this
   exact hq _ this)
  show wpAny _ _ (reNextFound (tgt tk l) pre.length false >>= _) _ _ _
  refine wpAny_bind (qgv (m := q28 l.toArray pre.length) (n := 3 * (l.toArray.size - pre.length) + 4) (by simp; exact o129 hsz) (by rw [hns]; rfl) (fun h => by rw [hns] at h; cases h) (fun _ => ?_) (fun w h => by rw [hns] at h; cases h))
  refine wpAny_pure (q51 ?_ L)
  have := ret [] n pre.length k .nil (by
   have e := q4n pre q []
   rw [hl1, hl]
   simpa [q02, q43] using e)
  simpa using this
 | (w, p) :: r, pre, q, _ :: L, out, n, k, hg, hq, hne, hl, hL, ret => by
  (refine q2e (hg (w, p) (.head _)) fun hw0 hw1 hp0 hp1 => ?_)
  dsimp only at hw0 hw1 hp0 hp1
  have hl2 : l = pre ++ (q ++ (w ++ (p ++ q02 r))) := hl
  have hl3 : l = (pre ++ q) ++ (w ++ (p ++ q02 r)) := by rw [hl2]; simp
  have hl4 : l = (pre ++ q ++ w) ++ (p ++ q02 r) := by rw [hl2]; simp
  have hw2 : 0 < w.length := List.length_pos_iff.mpr hw0
  have hp2 : 0 < p.length := List.length_pos_iff.mpr hp0
  have hlen : l.length = pre.length + (q.length + (w.length + (p.length + (q02 r).length))) := by rw [hl2]; simp
  have hf := q6u l.toArray pre.length q.length w.length hw2 (by simp; exact o282 hp2 hlen)
   (fun i h1 h2 => by have := q5n pre q (w ++ (p ++ q02 r)) i h1 h2; rw [<- hl2] at this; exact hq _ this)
   (fun i h1 h2 => by have := q5n (pre ++ q) w (p ++ q02 r) i (by simpa using h1) (by simp; exact h2); rw [<- hl3] at this; exact hw1 _ this)
   (by have := q5n (pre ++ q ++ w) p (q02 r) (pre.length + q.length + w.length) (by simp; exact o256) (by simp; exact o270 hp2); rw [<- hl4] at this; exact hp1 _ this)
   (by simp; exact Nat.lt_add_left _ hsz)
  (refine q2r hf fun f1 f2 f3 f4 f5 => ?_; (try clear hf))
  rw [List.forIn_cons]
  refine wpAny_bind ?_
  show wpAny _ _ (reNextFound (tgt tk l) pre.length false >>= _) _ _ _
  refine wpAny_bind (qgv (m := q28 l.toArray pre.length) (n := 3 * q.length + 7) (by exact o283 hsz hlen) (by rw [f1]; rfl) (fun _ => ?_) (fun h => by rw [f1] at h; cases h) (fun w h => by rw [f1] at h; cases h))
  generalize Sre.M.runFor (3 * q.length + 7) (q28 l.toArray pre.length) = m at f1 f2 f3 f4 f5
  dsimp only
  refine wpAny_bind (q6m hl2 rfl f2 hsz ?_)
  refine wpAny_bind ?_
  show wpAny _ _ (forIn [0] (out.push _) _) _ _ _
  rw [List.forIn_cons]
  refine wpAny_bind ?_
  unfold reMachineGroup
  rw [f4, if_neg (by decide), f5]
  show wpAny _ _ ((if pre.length + q.length + w.length < pre.length + q.length then reWrongSpan else reSlice l.toArray 0 (pre.length + q.length) (pre.length + q.length + w.length)) >>= _) _ _ _
  rw [if_neg (by exact o259)]
  refine wpAny_bind (q6m hl3 (by simp) (by simp) hsz ?_)
  refine wpAny_pure ?_
  dsimp only
  rw [List.forIn_nil]
  refine wpAny_pure (wpAny_pure ?_)
  dsimp only
  rw [f2, f3]
  have hb : (pre.length + q.length + w.length == pre.length + q.length) = false := beq_eq_false_iff_ne.mpr (by exact o211 hw2)
  rw [hb]
  have e2 : (pre ++ q ++ w).length = pre.length + q.length + w.length := by simp [Nat.add_assoc]
  rw [<- e2]
  exact q53 hsz r (pre ++ q ++ w) p L _ (n + 1) _ (fun c hc => hg c (.tail _ hc)) hp1 (.inl hp0) hl4 (by simpa using hL)
   (fun vs n' e k' hv he => by
    have := ret (.str (strL q) k :: .str (strL w) (k + 1) :: vs) n' e k' (.cons _ _ (.cons _ _ hv)) he
    simpa using this)
theorem q9w (q : List Nat) (cs : List (List Nat × List Nat)) : q3k q cs = q5b q cs ++ [strL (q43 q cs)] := by
 induction cs generalizing q with
 | nil => rfl
 | cons c r ih => obtain ⟨w, p⟩ := c; simp [q3k, q5b, q43, ih]
theorem q91 {M : Model} {items : List Value} {h : Heap} {g : Array GenState} {d : Drawn} {k : Nat} {os : OsState} {Q : Value -> Shared -> Prop} (hz : items.length <= sizeLine) (hq : Q (.ref h.objs.size) ⟨h.push (W.listOf items.toArray 0), g, d, k, os⟩) : wpAny M A (newList items) Q E ⟨h, g, d, k, os⟩ :=
 wpAny_newList hq hz
theorem qff : Array.map (fun x : Int => x.toNat) (Array.map reRawOf #[Value.int 14 0, .int 4 0, .int 0 0, .int 1 0, .int 4294967295 0, .int 17 0, .int 0 0, .int 24 0, .int 11 0, .int 1 0, .int 4294967295 0, .int 13 0, .int 6 0, .int 16 0, .int 32 0, .int 16 0, .int 9 0, .int 0 0, .int 1 0, .int 17 0, .int 1 0, .int 1 0]) = wsCode := by
 simp only [List.map_toArray, List.map_cons, List.map_nil]
 rfl
theorem qcc {t0 t1 t : Tok} {cs : List (List Nat × List Nat)} {Q : Value -> Shared -> Prop} (hp : s.heap.get? 92 = some (q70 t0 t1)) (hc : s.heap.get? 91 = some q5v) (hg : GoodC cs) (hne : cs ≠ []) (hsz : (q02 cs).length < 100000)
  (hq : ∀ vs k, StrsAre vs (q3k [] cs) -> Q (.ref s.heap.objs.size) { s with heap := s.heap.push (W.listOf vs.toArray 0), toks := k }) :
  wpAny (model prog w) A (call (.builtin "re.Pattern.split") [.ref 92, .str (strL (q02 cs)) t]) Q E s := by
 have hT : s.TypeIs (.ref 92) "re.Pattern" := ⟨_, hp, rfl⟩
 refine wpAny_call_entry q2h hT q4m ?_ (q4u _ _)
 unfold Builtin.«re.Pattern.split»
 dsimp only
 rw [q7e]
 refine wpAny_bind (wpAny_pure ?_)
 dsimp only
 refine wpAny_bind (wpAny_pure ?_)
 refine wpAny_bind ?_
 unfold reWholeTarget
 refine wpAny_bind (wpAny_fieldsOf hp rfl ?_)
 refine wpAny_bind (m := reTextOf _) (wpAny_pure ?_)
 dsimp only
 show wpAny _ _ (reNoCollectionInside (.str (strL (q02 cs)) t) 0 >>= _) _ _ _
 refine wpAny_bind (wpAny_pure ?_)
 show wpAny _ _ (reRawItems (.ref 91) >>= _) _ _ _
 unfold reRawItems
 refine wpAny_bind (wpAny_bind (wpAny_seqItems hc rfl (wpAny_pure ?_)))
 refine wpAny_pure ?_
 dsimp only [Option.getD_some]
 rw [qff]
 show wpAny _ _ (forIn (List.range (2 * (q02 cs).toArray.size + 3)) ((#[], 0, 0, false, 0, false) : q2l) (q46 (tgt t (q02 cs))) >>= _) _ _ _
 have hlen : cs.length <= (q02 cs).length := by
  clear hne hq hsz
  induction cs with
  | nil => exact Nat.zero_le _
  | cons c r ih =>
   obtain ⟨w, p⟩ := c
   have := ih fun c hc => hg c (.tail _ hc)
   have h2 := List.length_pos_iff.mpr (hg _ (.head _)).1
   dsimp only at h2
   rw [q19]
   simp only [List.length_append, List.length_cons]
   omega
 refine wpAny_bind (q53 (s := s) (by exact Nat.lt_add_left _ hsz) cs [] [] (List.range (2 * (q02 cs).toArray.size + 3)) #[] 0 s.toks hg (fun a ha => by cases ha) (.inr hne) rfl (by simp; exact o153 hlen) (fun vs n' e k' hv he => ?_))
 show wpAny _ _ (reSlice (q02 cs).toArray 0 e (q02 cs).length >>= _) _ _ _
 have hz : (1000000 : Nat) <= sizeLine := by decide
 have hlc : ∀ (cs : List (List Nat × List Nat)) (q : List Nat), (q43 q cs).length <= q.length + (q02 cs).length := by
  intro cs
  induction cs with
  | nil => intro q; exact Nat.le_add_right _ _
  | cons c r ih =>
   obtain ⟨w, p⟩ := c
   intro q
   have := ih p
   rw [q19]
   simp only [List.length_append, q43]
   omega
 have hl0 := hlc cs []
 have hlp : ∀ (cs : List (List Nat × List Nat)) (q : List Nat), (q5b q cs).length <= 2 * cs.length := by
  intro cs
  induction cs with
  | nil => intro q; exact Nat.zero_le _
  | cons c r ih =>
   obtain ⟨w, p⟩ := c
   intro q
   have := ih p
   simp only [List.length_cons, q5b]
   omega
 have hl9 := hlp cs []
 have hv9 := hv.length
 unfold reSlice
 rw [if_pos (by decide), he]
 refine wpAny_bind (wpAny_mkStr ?_ (by show (q43 [] cs).toArray.size <= sizeLine; simp; simp at hl0; exact o241 hsz hz hl0))
 have ev : (((#[] ++ vs.toArray).push (.str (strL (q43 [] cs)) k') : Array Value)).toList = vs ++ [.str (strL (q43 [] cs)) k'] := by simp
 show wpAny _ _ (newList (((#[] ++ vs.toArray).push (.str (strL (q43 [] cs)) k') : Array Value)).toList >>= _) _ _ _
 rw [ev]
 refine wpAny_bind (q91 (by simp; exact o281 hsz hlen hz hl9 hv9) ?_)
 refine wpAny_pure ⟨_, rfl, ?_⟩
 exact hq _ _ (by rw [q9w]; exact StrsAre.append' hv (.cons _ _ .nil))
end
end
end
section
open PySem PySem.W PyProof.Rows PySem.Calls
example : True := by
 k_with_none
 trivial
section
noncomputable def TabG (pos : Pos) (ps : Array Value) : Prop := ps = #[] ∨ ∃ c : Addr, ps = #[] ++ #[rawInt pos.line, rawInt pos.col, .ref c]
theorem q77 (n : Nat) : passing (fun _ => true) n 0 = List.range n := by
 unfold passing
 rw [List.drop_zero]
 exact List.filter_eq_self.mpr fun _ _ => rfl
section
variable {prog : Program} {w : World} {A : Around} {E : Value -> Shared -> Prop} {s : Shared} {K : Frag} {x C P c L : Addr} {ox od : Obj} {h₀ : Heap} {m mg : Str -> Option Value} {bm : Addr} {ob : Obj}
theorem q4e {env : Env} {elt iter : Expr} {xa xb : Str} {pa pb pt : Pos} {kt : Nat} {scope : Scope} {cl : List (Str × Addr)} {pos : Pos} {Q : Value -> Shared -> Prop} {items : Array Value} {ep : Nat} {ps : Array Value} {rest : List (Addr × Obj)} {Ts : Nat -> Addr} {va vb : Nat -> Value} {F : Nat -> Value -> Prop}
  (Fh : Fr h₀ L s.heap m) (N : News h₀ L s.heap ((P, tabObj ps) :: rest)) (hoff : ∀ p ∈ rest, p.1 ≠ P)
  (X : K.In s.heap) (I : InstAt s.heap x ox C (some od)) (hm : mroIn K C (.type "list") = some true) (hf : findIn K (.ref C) "__iter__" = some (some (.builtin "list.__iter__"))) (hod : ox.data = .seq items ep)
  (hit : ∀ j, j < items.size -> items[j]? = some (.ref (Ts j))) (htup : ∀ k, k < items.size -> s.heap.IsTuple (Ts k) #[va k, vb k])
  (M : BMod s.heap env.globals mg bm ob) (hMP : env.globals ≠ P /\ bm ≠ P) (hlim : s.heap.NoLimit) (G : AllBare s.gens) (Cd : CodeHd s.heap c P) (hcode : env.code = .ref c) (hT : TabG pos ps)
  (hh : A.handled = none) (hco : scope.isCoroutine = false) (hclos : closureFor scope env = pure cl) (hcell : ∀ y ∈ scope.names, y.2 ≠ .cell) (h0 : scope.names.lookup (".0" : Str) = some NameKind.local)
  (hxa : scope.names.lookup xa = some .local) (hxb : scope.names.lookup xb = some .local) (hab : xa ≠ xb) (hkind : scope.kind = .function) (hroom : A.depth < recursionLimit)
  (hiter : wpAny (model prog w) A (eval iter env) (fun xv s₁ => xv = .ref x /\ s₁ = s) E s) (hs : ∀ x, genFold iter env x = pure x)
  (helt : ∀ (C' : Addr) (code : Value) (A' : Around) (E' : Value -> Shared -> Prop) (i : Nat) (s₂ : Shared) (m₂ : Str -> Option Value), A'.handled = none -> i < items.size -> s₂.heap.Ns C' m₂ -> m₂ xa = some (va i) -> m₂ xb = some (vb i) -> s.heap.objs.size <= C' →
   (∀ b o, b ≠ P -> s.heap.get? b = some o -> s₂.heap.get? b = some o) -> wpAny (model prog w) A' (eval elt (genEnv scope cl C' code builtinsNs env)) (fun y s₃ => F i y /\ Keeps s₂ s₃) E' s₂)
  (ret : ∀ a s₅ ps' Kb, Fr h₀ L s₅.heap m -> News h₀ L s₅.heap ((P, tabObj ps') :: rest) -> TabG pos ps' -> AllBare s₅.gens -> s₅.os = s.os -> s₅.drawn = s.drawn -> (∀ p ∈ rest, p.1 <= Kb) -> P <= Kb -> L <= Kb -> Kb < s₅.heap.objs.size →
   Gen prog w A Kb a items.size (fun j y => ∃ i, (List.range items.size)[j]? = some i /\ F i y) s₅ -> Q (.ref a) s₅) :
  wpAny (model prog w) A (eval (.GeneratorExp elt [⟨.Tuple [.Name xa pa, .Name xb pb] kt pt, iter, [], 0⟩] scope pos) env) Q E s := by
 have NP := N _ (.head _)
 have hPlt : P < s.heap.objs.size := Heap.lt_size NP.1
 have hpush : ∀ (o' : Obj) b o, s.heap.get? b = some o -> (s.heap.push o').get? b = some o := fun o' b o e => Heap.get?_push_of_some _ e
 have hxP : x ≠ P := fun e => by
  have e1 := I.at_
  rw [e, NP.1] at e1
  cases e1
  cases hod
 have hTP : ∀ k, k < items.size -> Ts k ≠ P := fun k hk e => by
  obtain ⟨o, e1, hc, hd⟩ := htup k hk
  rw [e, NP.1] at e1
  cases e1
  obtain ⟨n, hd⟩ := hd
  cases hd
 refine wpAny_GeneratorExp_walksQT hh hco hclos hcell h0 hxa hxb hab hkind hroom (wpAny_mono hiter (fun xv s₁ h₁ => ?_) fun _ _ e => e) hs
 obtain ⟨rfl, rfl⟩ := h₁
 refine qbk X I hm hf ?_
 generalize hit0 : ({ cls := .type "list_iterator", data := .fields #[.ref x, .int 0 0] } : Obj) = oit
 have hl2 : (s₁.heap.push oit).NoLimit := hlim.keeps (hpush oit)
 have Cd2 : CodeHd (s₁.heap.push oit) c P := by
  obtain ⟨o, vs, file, tf, flags, tg, inF, text, tt, e1, e⟩ := Cd
  exact ⟨o, vs, file, tf, flags, tg, inF, text, tt, hpush oit _ _ e1, e⟩
 have hP2 := hpush oit _ _ NP.1
 refine ⟨hl2, ?_⟩
 have key : ∀ {Q' : Value -> Shared -> Prop}, (∀ c' h₃ tk ps', TabG pos ps' -> Heap.ExtBut P (s₁.heap.push oit) h₃ -> (s₁.heap.push oit).objs.size <= h₃.objs.size -> h₃.get? P = some (tabObj ps') -> Q' c' { s₁ with heap := h₃, toks := tk }) →
   wpAny (model prog w) A (genexprCode env pos (env.qual ++ "<genexpr>") scope) Q' E { s₁ with heap := s₁.heap.push oit } := by
  intro Q' hq
  rcases hT with hT | ⟨c', hT⟩
  ·subst hT
   refine wpAny_genexprCodeX hcode (Cd2.code hP2 trivial) (Cd2.tab hP2) rfl fun c' h₃ tk₃ hx₃ hge hlt hcode₃ _ htab₃ _ => ?_
   exact hq _ _ _ _ (.inr ⟨c', rfl⟩) hx₃ (Nat.le_trans hge (Nat.le_of_lt hlt)) htab₃.2
  ·subst hT
   refine wpAny_genexprCode_hit (c' := .ref c') hcode (Cd2.code hP2 ?_) ?_ ?_
   ·trivial
   ·show codeAmong pos [rawInt pos.line, rawInt pos.col, .ref c'] = some (.ref c')
    simp [codeAmong, rawInt]
   ·exact hq _ _ s₁.toks _ (.inr ⟨c', rfl⟩) (fun _ _ _ e => e) (Nat.le_refl _) hP2
 refine key fun c' h₃ tk₃ ps' hT' hx₃ hsz₃ hP₃ => ?_
 have up : ∀ b o, b ≠ P -> s₁.heap.get? b = some o -> h₃.get? b = some o := fun b o hb e => hx₃ b o hb (hpush oit b o e)
 have hl₃ : h₃.NoLimit := by
  obtain ⟨mc, hns, hno⟩ := hl2
  refine ⟨mc, hns.at' fun o e => hx₃ _ o (fun e' => ?_) e, hno⟩
  obtain ⟨o, es, ep, ho, hd, _⟩ := hns
  rw [e', hP2] at ho; cases ho; cases hd
 have F₃ : Fr h₀ L h₃ m := ⟨Fh.ns.at' fun o e => up _ o (fun e' => NP.2.1 e'.symm) e, fun b o e => up b o (fun e' => by rw [e', NP.2.2] at e; cases e) (Fh.keep b o e), Fh.above⟩
 have hIlt : s₁.heap.objs.size < h₃.objs.size := by
  rw [Heap.size_push] at hsz₃
  exact hsz₃
 refine wpAny_builtinsFor (M.ns.at' fun o e => up _ o hMP.1 e) M.name M.ne (up _ _ hMP.2 M.obj) M.cls M.dict M.data ?_
 have hst : h₃.IsListIter s₁.heap.objs.size x 0 /\ SeqAt h₃ x items /\ ∀ k, k < items.size -> h₃.IsTuple (Ts k) #[va k, vb k] := by
  refine ⟨⟨oit, hx₃ _ _ (Nat.ne_of_gt hPlt) (Heap.get?_push_size _ (by rw [<- hit0]; rfl)), by rw [<- hit0], by rw [<- hit0]; rfl⟩, ⟨ox, ep, up _ _ hxP I.at_, hod⟩, fun k hk => ?_⟩
  obtain ⟨o, e1, e2⟩ := htup k hk
  exact ⟨o, up _ _ (hTP k hk) e1, e2⟩
 have hTlt : ∀ k, k < items.size -> Ts k < s₁.heap.objs.size := fun k hk => by obtain ⟨o, e1, _⟩ := htup k hk; exact Heap.lt_size e1
 have hxlt : x < s₁.heap.objs.size := Heap.lt_size I.at_
 have hcs : cStatics < s₁.heap.objs.size := by obtain ⟨mc, hns, _⟩ := hlim; exact hns.lt
 refine ⟨s₁.heap.objs.size, _, _, items.size, _, _, _, (fun _ => true), F, rfl, fun A' hA => (q7f (A := A') hA s₁.heap.objs.size x (Nat.ne_of_lt hxlt) items Ts (fun k => #[va k, vb k]) hit fun j hj => Nat.ne_of_lt (hTlt j hj)).bound,
  fun i vals hv => ⟨va i, vb i, hv.2⟩, hst, ?_, hl₃, ?_, ?_, ?_⟩
 ·intro b hb
  rcases List.mem_cons.mp hb with e | hb
  ·rw [e]; exact hIlt
  rcases List.mem_cons.mp hb with e | hb
  ·rw [e]; exact Nat.lt_trans hxlt hIlt
  ·obtain ⟨k, hk, rfl⟩ := List.mem_map.mp hb
   exact Nat.lt_trans (hTlt k (List.mem_range.mp hk)) hIlt
 ·intro hm'
  exact absurd hcs ((List.mem_singleton.mp hm') ▸ Nat.lt_irrefl _)
 ·intro href hhref
  refine ⟨fun A' E' i va' vb' s₂ m₂ hA hPt hns hma hmb hk => ?_, fun A' E' i va' vb' s₂ m₂ hA hPt _ hns hma hmb hk => ?_⟩
  ·show wpAny _ _ (pure true) _ _ _
   exact wpAny_pure ⟨rfl, s₂.heap, s₂.toks, rfl, fun _ _ e => e⟩
  ·obtain ⟨hi, hv⟩ := hPt
   have hv' : va' = va i /\ vb' = vb i := by simpa using hv
   refine helt h₃.objs.size c' A' E' i s₂ m₂ hA hi hns (hv'.1 ▸ hma) (hv'.2 ▸ hmb) (Nat.le_of_lt hIlt) fun b o hb e => ?_
   have hblt : b < s₁.heap.objs.size := Heap.lt_size e
   exact hk b (List.mem_range.mpr (Nat.lt_trans hblt hIlt)) (fun hm' => absurd hblt ((List.mem_singleton.mp hm') ▸ Nat.lt_irrefl _)) o (hhref b o (up b o hb e))
 ·intro a h₅ tk gs hgb hag hsz₅ hk₅ W hat
  have hLlt : L < s₁.heap.objs.size := Fh.ns.lt
  have e1 : (passing (fun _ => true) items.size 0) = List.range items.size := q77 _
  refine ret a _ ps' (s₁.heap.objs.size - 1) (F₃.keeps hk₅) ?_ hT' (G.push hgb) rfl rfl ?_ (Nat.le_sub_one_of_lt hPlt) (Nat.le_sub_one_of_lt hLlt) ?_ ?_
  ·intro p hp
   rcases List.mem_cons.mp hp with e | hp
   ·rw [e]; exact ⟨hk₅ _ _ hP₃, NP.2⟩
   ·have z := N p (.tail _ hp)
    exact ⟨hk₅ _ _ (up _ _ (hoff p hp) z.1), z.2⟩
  ·intro p hp
   exact Nat.le_sub_one_of_lt (Heap.lt_size (N p (.tail _ hp)).1)
  ·show s₁.heap.objs.size - 1 < h₅.objs.size
   have h1 : h₃.objs.size < a := hag
   omega
  ·rw [e1] at W
   simp only [List.length_range] at W
   refine ⟨_, _, _, _, W, hat, (fun i s' st => st.1.typeIs), List.mem_cons_self, ?_, ?_⟩
   ·intro b hb
    show b < h₅.objs.size
    rw [hsz₅]
    rcases List.mem_cons.mp hb with rfl | hb
    ·exact Nat.lt_succ_self _
    ·rcases List.mem_cons.mp hb with rfl | hb
     ·exact Nat.lt_succ_of_lt hag
     ·exact Nat.lt_succ_of_lt (Nat.lt_trans (List.mem_range.mp hb) hag)
   ·intro b hb
    rcases List.mem_cons.mp hb with rfl | hb
    ·show s₁.heap.objs.size - 1 < h₃.objs.size
     exact Nat.lt_of_le_of_lt (Nat.sub_le _ _) hIlt
    ·rw [List.mem_singleton.mp hb]
     exact Nat.sub_one_lt (Nat.ne_of_gt (Nat.lt_of_le_of_lt (Nat.zero_le _) hPlt))
end
end
section
section
variable {prog : Program} {w : World} {A : Around} {E : Value -> Shared -> Prop} {s : Shared} {K : Frag} {x C : Addr} {ox od : Obj}
theorem qct {v : Value} {name : Str} {expr : Bool} {Q : Value -> Shared -> Prop} (X : K.In s.heap) (I : InstAt s.heap x ox C (some od)) (hm : mroIn K C (.type "list") = some true) (hga : findIn K (.ref C) "__getattribute__" = some (some (.builtin "list.__getattribute__"))) (hk : findIn K (.ref C) "__getattr__" = some none)
  (hf : findObj K C (some od) name = some (.value v)) (hh : handedIn v = true) (h : Q v { s with toks := s.toks + 1 }) : wpAny (model prog w) A (getAttr (.ref x) name expr) Q E s := by
 obtain ⟨hp, g, d, t, os⟩ := s
 have L0 := I.type (M := model prog w)
 have L1 := looks_findIn (M := model prog w) X hga
 have L2 := looks_findIn (M := model prog w) X hk
 have L3 := looks_find (M := model prog w) X I hf
 have slot := PySem.F.slot_list_getattribute
 unfold getAttr getAttrBy
 refine wpAny_bind (wpAny_mkText (wpAny_holding (wpAny_bind (L0.at (wpAny_bind (L1.at ?_))))))
 show wpAny _ _ (getAttrByItsOwn _ _ _ _ _ _) _ _ _
 unfold getAttrByItsOwn
 refine wpAny_bind ?_
 show wpAny _ _ (typeLookup (.ref C) "__getattr__") _ _ _
 refine L2.at ?_
 refine wpAny_bind (wpAny_attempt (wpAny_holding ?_))
 unfold callGetattribute
 rw [show onTheHeap (.builtin "list.__getattribute__") = false from rfl, Bool.and_false]
 rw [if_neg (by decide)]
 unfold boundAndCalled
 refine wpAny_bind (wpAny_of_eq (slot.bind _) ?_)
 refine q29 slot.plain am_entry_list_getattribute (n := "__getattribute__") (by decide +kernel) (by decide +kernel) (q1h (s := ⟨hp, g, d, t + 1, os⟩) X I hm) (PySem.F.args_list_getattribute_2 _ _) ?_
 unfold Builtin.«object.__getattribute__»
 refine wpAny_bind (wpAny_pure (wpAny_bind (wpAny_pure (wpAny_bind (L0.at (wpAny_bind (L3.at ?_)))))))
 refine wpAny_pure ⟨v, rfl, ?_⟩
 show wpAny _ _ (handedOut v) _ _ _
 rw [handedOut_of hh]; exact wpAny_pure h
variable {dx L : Addr} {h₀ : Heap} {m : Str -> Option Value} {news news' : List (Addr × Obj)} {R : Result -> Shared -> Prop}
theorem q83 (self : Value) : refuseLoop self "__setattr__" [.type "list", .type "object"] = pure () := by kernel_rfl
theorem qd5 {name : Str} {tk : Tok} {v : Value} {es : List DictEntry} {n : Nat} {pre post : List (Addr × Obj)} {od' : Obj} {es' : List DictEntry} {n' : Nat} (F : Fr h₀ L s.heap m) (N : News h₀ L s.heap (pre ++ (dx, dictOf es n) :: post)) (X : K.In s.heap)
  (I : InstAt s.heap x ox C (some (dictOf es n))) (hd : ox.dict = some dx) (hmro : (clsIn K C).map (·.mro) = some [.ref C, .type "list", .type "object"]) (ht : takerIn K C name = some none) (hh : (clsIn K C).any (·.hasDict) = true)
  (hl : (lookIn name (dictOf es n)).isSome = true) (h1 : ∀ p ∈ pre, p.1 ≠ dx) (h2 : ∀ p ∈ post, p.1 ≠ dx)
  (e : Obj.putName name (PyData.keyHash w.params name) (.str name s.toks) v (dictOf es n) = od') (e' : od'.data = .dict es'.toArray n') (hz : es'.length <= 1000)
  (h : ∀ h', Fr h₀ L h' m -> News h₀ L h' (pre ++ (dx, od') :: post) -> R (.ok (.ret .none)) { s with heap := h', toks := s.toks + 1 }) :
  codeAny (model prog w) A (.call (.builtin "object.__setattr__") ⟨[.ref x, .str name tk, v], []⟩) R s := by
 have SF := PySem.F.store_object
 (refine E_ea (Option.map_eq_some_iff.mp hmro) fun cd hc hmr => ?_)
 (refine E_ea (any_some hh) fun cd' hc' hd' => ?_)
 have ecd : cd' = cd := Option.some.inj (hc'.symm.trans hc)
 subst ecd
 have sub : Looks (model prog w) s.heap (isInstance (.ref x) (.type "object")) true := I.type.andThen (looks_mroIn X (by unfold mroIn; rw [hc, Option.bind_some, hmr]; rfl))
 refine codeAny_call_builtin SF.slot.plain SF.entry (@check_slot (model prog w) _ _ s "object.__setattr__" "object" "__setattr__" (.ref x) [.str name tk, v] [] _ SF.kind SF.split sub (SF.args (.ref x) (.str name tk) v) ?_)
 (refine E_ea (Option.bind_eq_some_iff.mp ht) fun attr ha hr => ?_)
 have hm : Looks (model prog w) s.heap (mroOf (.ref C)) cd'.mro := (looks_clsIn X hc).andThen .now
 have L3 : Looks (model prog w) s.heap (Builtin.ObjectAttr.storeTaker? attr) none := by
  cases attr with
  | none => exact .now
  | some a =>
   (refine E_ea (Option.map_eq_some_iff.mp hr) fun b hb hq => ?_)
   refine (looks_takesIn X hb).andThen ?_
   cases b
   ·exact .now
   ·cases hq
 rw [osa_eq, refuse_eq]
 refine wpAny_bind (wpAny_bind (I.type.here (wpAny_bind (hm.here ?_))))
 rw [hmr, refuseLoop_ref, q83]
 refine wpAny_pure (wpAny_bind (I.type.here (wpAny_bind ((looks_findIn X ha).here (wpAny_bind (L3.here ?_))))))
 (refine E_a (news_upd (f := Obj.putName name (PyData.keyHash w.params name) (.str name s.toks) v) F N h1 h2 e (by obtain ⟨_, _, dd, _⟩ := od'; cases e'; rfl)) fun U1 U2 => ?_)
 have D := (N (dx, dictOf es n) (by simp)).1
 have D' := (U2 (dx, od') (by simp)).1
 obtain ⟨hx, hcl, hn, -⟩ := I
 obtain ⟨oc, odi, oda, osl⟩ := ox
 dsimp only at hcl hd
 subst hcl hd
 refine wpAny_bind (wpAny_pure (wpAny_bind (wpAny_bind (wpAny_loadPart hx (wpAny_bind ((looks_clsIn X hc).here ?_))))))
 rw [hd']
 refine wpAny_pure (a := some dx) (wpAny_bind (wpAny_pure (wpAny_bind ?_)))
 unfold nsSet
 refine wpAny_bind (wpAny_bind (wpAny_askSetting (wpAny_pure (wpAny_bind (wpAny_mkText (wpAny_bind (wpAny_loadPart D ?_)))))))
 have c : (!es.toArray.any (·.key.isStr name) && es.toArray.any (·.refKey)) = false := by
  unfold lookIn at hl
  dsimp only at hl
  rw [<- Array.any_toList, <- Array.any_toList]
  split at hl
  ·rename_i en he
   rw [List.any_eq_true.mpr ⟨en, List.mem_of_find?_eq_some he, List.find?_some he⟩]; rfl
  ·split at hl
   ·cases hl
   ·rename_i z; rw [Bool.not_eq_true] at z; rw [z, Bool.and_false]
 dsimp only
 rw [aRefKeyMayBeTheName_at, c]
 refine wpAny_updatePart D ?_
 refine wpAny_bind (wpAny_lookBehind D' (by rw [e']; exact pastItsLine_dict (by rw [List.size_toArray, sizeLine_eq]; exact o40 hz)) ?_)
 exact wpAny_pure (h _ U1 U2)
theorem q6n {name : Str} {v : Value} {es es' : List DictEntry} {n n' : Nat} {Q : Unit -> Shared -> Prop} (F : Fr h₀ L s.heap m) (X₀ : K.In h₀) (N : News h₀ L s.heap news) (I : InstAt s.heap x ox C (some (dictOf es n))) (hd : ox.dict = some dx)
  (hs : findIn K (.ref C) "__setattr__" = some (some (.builtin "object.__setattr__"))) (hmro : (clsIn K C).map (·.mro) = some [.ref C, .type "list", .type "object"]) (ht : takerIn K C name = some none) (hh : hasDictIn K C = true) (hl : (getL name es).isSome = true)
  (e : (putL name (PyData.keyHash w.params name) (.str name (s.toks + 1)) v es, putN name es n) = (es', n')) (U : Upd dx (dictOf es n) (dictOf es' n') news news') (hz : es'.length <= 1000)
  (h : ∀ h', Fr h₀ L h' m -> News h₀ L h' news' -> Q () { s with heap := h', toks := s.toks + 2 }) :
  wpAny (model prog w) A (setAttr (.ref x) name v) Q E s := by
 (refine q10 (U.split) fun pre post z1z z2z a b => ?_; subst z1z; subst z2z)
 (refine E_a (Prod.mk.inj e) fun e1 e2 => ?_)
 exact set_plain (X₀.keeps F.keep) I hs (qd5 (s := { s with toks := s.toks + 1 }) F N (X₀.keeps F.keep) I hd hmro ht hh hl a b (by rw [putName_dict, e1, e2]) rfl hz fun h' F' N' => h h' F' N')
end
end
section
theorem qe6 (P : Params) : (clsIn (Mine.hd.heap_1 P) 249).map (·.mro) = some [.ref 249, .type "list", .type "object"] := by kernel_rfl
theorem qfj (P : Params) : codeHdIn (Mine.hd.heap_1 P) 215 211 = true := by kernel_rfl
theorem qee (P : Params) : codeHdIn (Mine.hd.heap_1 P) 222 218 = true := by kernel_rfl
section
variable {prog : Program} {w : World} {A : Around} {E : Value -> Shared -> Prop} {s : Shared} {K : Frag} {x C dx L : Addr} {ox od : Obj} {h₀ : Heap} {m : Str -> Option Value} {es : List DictEntry} {n : Nat}
theorem attrL {v : Value} {name : Str} {expr : Bool} {attr : Option Value} {Q : Value -> Shared -> Prop} (F : Fr h₀ L s.heap m) (X₀ : K.In h₀) (I : InstAt s.heap x ox C (some (dictOf es n))) (hm : mroIn K C (.type "list") = some true) (hga : findIn K (.ref C) "__getattribute__" = some (some (.builtin "list.__getattribute__"))) (hk : findIn K (.ref C) "__getattr__" = some none)
  (hh : hasDictIn K C = true) (ha : findIn K (.ref C) name = some attr) (hn : noGet K attr = true) (hl : getL name es = some (some v)) (hv : handedIn v = true) (h : Q v { s with toks := s.toks + 1 }) : wpAny (model prog w) A (getAttr (.ref x) name expr) Q E s :=
 qct (X₀.keeps F.keep) I hm hga hk (findObj_own hh ha hn hl) hv h
theorem qbc {f : Addr} {name : Str} {pl : Sem Bool} {Q : Value × List Value -> Shared -> Prop} (F : Fr h₀ L s.heap m) (X₀ : K.In h₀) (I : InstAt s.heap x ox C (some (dictOf es n))) (hga : findIn K (.ref C) "__getattribute__" = some (some (.builtin "list.__getattribute__"))) (hk : findIn K (.ref C) "__getattr__" = some none)
  (hf : findIn K (.ref C) name = some (some (.ref f))) (ht : isFn K (.ref f) = true) (hl : getL name es = some none) (h : Q (.ref f, [.ref x]) s) : wpAny (model prog w) A (getMethod (.ref x) name pl) Q E s :=
 q93 (X₀.keeps F.keep) I hga hk hf (beq_iff_eq.mp ht) (by show (lookIn name (dictOf es n)).map _ = _; rw [lookIn_dict, hl]; rfl) h
noncomputable abbrev tupO (f p : Str) (tf tp : Tok) : Obj := { cls := .type "tuple", data := .seq #[.str f tf, .str p tp] }
noncomputable def Chunks (l : List (Addr × Obj)) : List Value -> List (Str × Str) -> Prop
 | [], [] => True
 | v :: vs, c :: cs => (∃ t tf tp, v = .ref t /\ (t, tupO c.1 c.2 tf tp) ∈ l) /\ Chunks l vs cs
 | _, _ => False
theorem Chunks.length {l : List (Addr × Obj)} : ∀ {vs : List Value} {cs : List (Str × Str)}, Chunks l vs cs -> vs.length = cs.length
 | [], [], _ => rfl
 | _ :: _, _ :: _, h => congrArg Nat.succ (Chunks.length h.2)
theorem Chunks.get {l : List (Addr × Obj)} : ∀ {vs : List Value} {cs : List (Str × Str)}, Chunks l vs cs -> ∀ i, i < vs.length -> ∃ t tf tp, vs[i]? = some (.ref t) /\ ∃ c, cs[i]? = some c /\ (t, tupO c.1 c.2 tf tp) ∈ l
 | v :: vs, c :: cs, h, 0, _ => by
  (refine E_a h fun z1z _ => ?_; (try clear h); obtain ⟨t, tf, tp, e, hm⟩ := z1z)
  exact ⟨t, tf, tp, by rw [e]; rfl, c, rfl, hm⟩
 | v :: vs, c :: cs, h, i + 1, hi => by
  (refine q8a (h.2.get i (Nat.lt_of_succ_lt_succ hi)) fun t tf tp e c' e' hm => ?_)
  exact ⟨t, tf, tp, e, c', e', hm⟩
theorem Chunks.fns {l : List (Addr × Obj)} {vs : List Value} {cs : List (Str × Str)} (h : Chunks l vs cs) : ∃ (Ts : Nat -> Addr) (ta tb : Nat -> Tok), ∀ i, i < vs.length -> vs.toArray[i]? = some (.ref (Ts i)) /\ (Ts i, tupO (cs.getD i ("", "")).1 (cs.getD i ("", "")).2 (ta i) (tb i)) ∈ l := by
 have hg : ∀ i, i < vs.length -> ∃ q : Addr × Tok × Tok, vs.toArray[i]? = some (.ref q.1) /\ (q.1, tupO (cs.getD i ("", "")).1 (cs.getD i ("", "")).2 q.2.1 q.2.2) ∈ l := by
  intro i hi
  (refine q8a (h.get i hi) fun t tf tp e c e' hm => ?_)
  refine ⟨(t, tf, tp), by rw [List.getElem?_toArray]; exact e, ?_⟩
  rw [List.getD_eq_getElem?_getD, e']
  exact hm
 exact ⟨fun i => if hi : i < vs.length then (Classical.choose (hg i hi)).1 else 0, fun i => if hi : i < vs.length then (Classical.choose (hg i hi)).2.1 else 0, fun i => if hi : i < vs.length then (Classical.choose (hg i hi)).2.2 else 0, fun i hi => by
  simp only [dif_pos hi]
  exact Classical.choose_spec (hg i hi)⟩
end
end
theorem divmod_K {prog : Program} {w : World} {A : Around} {s : Shared} {Q E : Value -> Shared -> Prop} {h₀ : Heap} {L : Addr} {m : Str -> Option Value} {news : List (Addr × Obj)} {x y : Int} {t u : Tok} (F : Fr h₀ L s.heap m) (N : News h₀ L s.heap news) (hb : y ≠ 0)
  (hp : Builtin.divisionGoesByPylong x y = false ∨ PySem.PylongRoom (model prog w) A s)
  (h : ∀ D h' ta tb, Fr h₀ L h' m -> News h₀ L h' ((D, { cls := .type "tuple", data := .seq #[.int (x.fdiv y) ta, .int (x.fmod y) tb] }) :: news) -> (∀ p ∈ news, p.1 < D) →
   Q (.ref D) { s with toks := s.toks + 1 + 1, heap := h' }) :
  wpAny (model prog w) A (call (.builtin "divmod") [.int x t, .int y u]) Q E s :=
 divmod_N F N hb (fun h' F' N' => h _ _ _ _ F' N' (fun p hp => Heap.lt_size (N p hp).1)) hp
section
section
variable {prog : Program} {w : World} {A : Around} {E : Value -> Shared -> Prop} {s : Shared} {K : Frag} {h₀ : Heap} {L : Addr} {m : Str -> Option Value} {news : List (Addr × Obj)}
theorem q9h {t0 t1 : Tok} {pl : Sem Bool} {Q : Value × List Value -> Shared -> Prop} (F : Fr h₀ L s.heap m) (X₀ : K.In h₀) (hp : K.lookup 92 = some (q70 t0 t1)) (h : Q (.builtin "re.Pattern.split", [.ref 92]) s) : wpAny (model prog w) A (getMethod (.ref 92) "split" pl) Q E s := by
 have ho := (X₀.keeps F.keep) _ _ hp
 exact getMethod_builtin (T := "re.Pattern") ⟨_, ho, rfl⟩ qa0 q2h q4s (fun a e => by cases e; exact ⟨_, ho, rfl⟩) h
theorem qew {t0 t1 t : Tok} {x : Str} {cs : List (List Nat × List Nat)} {Q : Value -> Shared -> Prop} (F : Fr h₀ L s.heap m) (X₀ : K.In h₀) (N : News h₀ L s.heap news) (hp : K.lookup 92 = some (q70 t0 t1)) (hc : K.lookup 91 = some q5v) (hg : GoodC cs) (hne : cs ≠ []) (hsz : (q02 cs).length < 100000) (hx : x = strL (q02 cs))
  (h : ∀ D vs h' k, StrsAre vs (q3k [] cs) -> Fr h₀ L h' m -> News h₀ L h' ((D, W.listOf vs.toArray 0) :: news) -> (∀ p ∈ news, p.1 < D) -> Q (.ref D) { s with heap := h', toks := k }) : wpAny (model prog w) A (call (.builtin "re.Pattern.split") [.ref 92, .str x t]) Q E s := by
 subst hx
 refine qcc ((X₀.keeps F.keep) _ _ hp) ((X₀.keeps F.keep) _ _ hc) hg hne hsz fun vs k hv => ?_
 exact h _ vs _ k hv (F.push _) (N.push F _) fun p hp => Heap.lt_size (N p hp).1
theorem qbb {t u : Tok} {y : Str} {Q : Value -> Shared -> Prop} (h : Q (.str y u) s) : wpAny (model prog w) A (binaryOp .Add (.str (Str.ofString "") t) (.str y u)) Q E s := PySem.P.add_str h
theorem q7j {M : Model} {T : String} {pos p : Pos} {env : Env} {e : Expr} {Q : Value -> Shared -> Prop} (h : wpAny M A (eval e env) (fun v s₁ => StarOf M A E v (fun vs s₂ => True /\ wpAny M A (call (.type T) vs) Q E s₂) s₁) E s)
  (he : starEach [.Starred e p] env = [(true, eval e env)] := by rfl) :
  wpAny M A (callWith pos (.type T) [] (backTo pos (starEach [.Starred e p] env)) []) Q E s := by
 rw [he]
 exact ks_call (P := fun _ => True) rfl (fun _ _ => ⟨.machine, .inr (.inl rfl), Looks.of_pure rfl⟩) (ks_lone h)
noncomputable abbrev zipO (TI TO : Addr) (f0 : Value) : Obj := { cls := .type "zip", dict := none, data := .fields #[f0, .bool false, .bool false, .ref TI, .ref TO], slots := #[] }
noncomputable abbrev q3s (a b : Value) : Obj := { cls := .type "tuple", data := .seq #[a, b] }
noncomputable abbrev liO (l : Addr) (k : Nat) : Obj := { cls := .type "list_iterator", data := .fields #[.ref l, .int k 0] }
theorem qhh {it l : Addr} {Q : Value -> Shared -> Prop} (F : Fr h₀ L s.heap m) (N : News h₀ L s.heap news) (hI : (it, liO l 0) ∈ news)
  (h : ∀ h' z TI TO, Fr h₀ L h' m -> News h₀ L h' ((z, zipO TI TO .none) :: (TO, q3s .none .none) :: (TI, q3s (.ref it) (.ref it)) :: news) -> (∀ p ∈ news, p.1 < TI) -> @LT.lt Nat _ TI TO /\ @LT.lt Nat _ TO z -> Q (.ref z) { s with heap := h' }) :
  wpAny (model prog w) A (call (.type "zip") [.ref it, .ref it]) Q E s :=
 qab (l := l) F N ⟨_, (N _ hI).1, rfl, rfl⟩ fun h' z TI TO F' N' l1 a b => h h' z TI TO F' N' l1 ⟨a, b⟩
theorem q6k {l : Addr} {vs : List Value} {n : Nat} {Q : Value -> Shared -> Prop} (F : Fr h₀ L s.heap m) (N : News h₀ L s.heap news) (hl : (l, W.listOf vs.toArray n) ∈ news)
  (h : ∀ I h', Fr h₀ L h' m -> News h₀ L h' ((I, liO l 0) :: news) -> (∀ p ∈ news, p.1 < I) -> Q (.ref I) { s with heap := h' }) :
  wpAny (model prog w) A (call (.builtin "iter") [.ref l]) Q E s := by
 refine call_function_entry (by decide +kernel) (by decide +kernel) kdk_entry_iter (kdk_args_iter _) ?_
 unfold Builtin.«iter»
 refine wpAny_bind (m := someArgs "iter" 1 2 _) (wpAny_of_eq (a := [Value.ref l]) (by first | rfl | kernel_rfl!) ?_)
 show wpAny _ _ (pyIter (.ref l) >>= _) _ _ _
 refine wpAny_bind (wpAny_pyIter_list (News.isList N hl) ?_)
 exact wpAny_pure ⟨_, rfl, h _ _ (F.push _) (News.push F N _ rfl) (fun q hq => Heap.lt_size (N q hq).1)⟩
theorem qeb {l it : Addr} {u : Tok} {Q : Value -> Shared -> Prop} (F : Fr h₀ L s.heap m) (N : News h₀ L s.heap news) (hl : (l, W.listOf #[.ref it] 0) ∈ news)
  (h : ∀ D h', Fr h₀ L h' m -> News h₀ L h' ((D, W.listOf #[.ref it, .ref it] 0) :: news) -> (∀ p ∈ news, p.1 < D) -> Q (.ref D) { s with heap := h' }) :
  wpAny (model prog w) A (binaryOp .Mult (.ref l) (.int 2 u)) Q E s :=
 mul_list F N (N _ hl).1 (by decide) (by decide) (by show 1 * 2 <= 2 ^ 24; decide) fun h' F' N' => h _ h' F' N' fun q hq => Heap.lt_size (N q hq).1
theorem qc0 {D : Addr} {y : Value} {q : List Value} {n : Nat} {u : Tok} {news' : List (Addr × Obj)} {Q : Value -> Shared -> Prop} (F : Fr h₀ L s.heap m) (N : News h₀ L s.heap news)
  (U : Upd D (W.listOf (y :: q).toArray n) (W.listOf q.toArray (n + 1)) news news') (hz : q.length < 100000) (h : ∀ h', Fr h₀ L h' m -> News h₀ L h' news' -> Q y { s with heap := h' }) : wpAny (model prog w) A (call (.builtin "list.pop") [.ref D, .int 0 u]) Q E s := by
 have hz1 : (100001 : Nat) <= sizeLine := by decide
 refine kl_popAt (k := 0) (p := []) (q := q) (y := y) F N rfl ?_ rfl U (by simp; exact o128 hz hz1) h
 show (if _ then _ else _) = _
 simp
 try omega
end
noncomputable def q1g : List (List Nat × List Nat) -> List Str
 | [] => []
 | (w, p) :: r => strL w :: strL p :: q1g r
theorem q64 (q : List Nat) (cs : List (List Nat × List Nat)) : q3k q cs = strL q :: q1g cs := by
 induction cs generalizing q with
 | nil => rfl
 | cons c r ih => obtain ⟨w, p⟩ := c; simp [q3k, q1g, ih]
theorem q9m (cs : List (List Nat × List Nat)) : (q1g cs).length = 2 * cs.length := by
 induction cs with
 | nil => rfl
 | cons c r ih => obtain ⟨w, p⟩ := c; simp [q1g, ih]; exact Nat.add_assoc _ _ _
theorem qdx {cs : List (List Nat × List Nat)} (hg : GoodC cs) : cs.length <= (q02 cs).length := by
 induction cs with
 | nil => exact Nat.zero_le _
 | cons c r ih =>
  obtain ⟨w, p⟩ := c
  have := ih fun c hc => hg c (.tail _ hc)
  have h2 := List.length_pos_iff.mpr (hg _ (.head _)).1
  dsimp only at h2
  rw [q19]
  simp only [List.length_append, List.length_cons]
  omega
section
variable {prog : Program} {w : World} {A : Around} {s : Shared} {env : Env} {h₀ : Heap}
noncomputable def LiAt (io : Obj) (l : Addr) (k : Nat) : Prop := io.cls = .type "list_iterator" /\ io.data = .fields #[.ref l, .int k 0]
end
end
example : True := by
 k_with_none
 k_with "omega" => (first | assumption | exact Nat.le_refl _ | exact Nat.ne_of_lt (by assumption) | exact Nat.ne_of_gt (by assumption) | exact Nat.le_of_lt (by assumption) | lia)
 k_with "k_all" => (exact q1q (by assumption))
 k_with "k_room" => (ktr_room)
 k_with "m ite" => ((k_here; k_dflt (first
 | refine ite_pos (by first | exact bne_iff_ne.mpr (by omega) | exact beq_self_eq_true _ | exact beq_iff_eq.mpr (by omega) | exact decide_eq_true (by omega)) ?_
 | refine ite_neg (by first | exact fun h => absurd (beq_iff_eq.mp h) (by exact o144 hl9) | exact fun h => absurd (of_decide_eq_true h) (by omega)) ?_)))
 k_with "k_inst" => ((refine' q31 (by k_asm) (by k_mem) (by k_mem)))
 k_with "m getMethod ref" => ((k_here; k_dflt (refine' q2q (by k_in) (by k_inst) (by k_is) (by k_is) (by k_is) PySem.F.type_list_append (by rfl) ?_; k_whole)))
 k_with "m call builtin:list.append" => ((k_here; (with_reducible show wpAny _ _ (call (Value.builtin _) [Value.ref _, _]) _ _ _); k_dflt (refine' q25 (by k_in) (by k_inst) (by k_is) (by k_asm) (by k_asm) (by k_upd) (by omega) ?_; k_whole; intro h' F' N'; (try k_sweep))))
 k_with "m getAttr ref" => ((k_here; k_dflt (refine' attrL (by k_asm) (by k_asm) (by k_inst) (by k_is) (by k_is) (by k_is) (by k_is) (by k_is) (by k_is) (by k_get) (by k_handed) ?_; k_whole)))
 k_with "m getMethod ref" => ((k_here; k_dflt (refine' qbc (by k_asm) (by k_asm) (by k_inst) (by k_is) (by k_is) (by k_is) (by k_is) (by k_get) ?_; k_whole)))
 k_with "m getMethod ref" => ((k_here; k_dflt (first
 | (refine' q5g q73 (by k_asm) (by k_asm) (by k_asm) (by k_mem) (by k_inst) (by k_is) (by ks_is) (by decide) (by k_is) ?_; intro q' h' F' N' l1; (try k_lt l1); (try dsimp only))
 | (refine' q5g q6p (by k_asm) (by k_asm) (by k_asm) (by k_mem) (by k_inst) (by k_is) (by ks_is) (by decide) (by k_is) ?_; intro q' h' F' N' l1; (try k_lt l1); (try dsimp only))
 | (refine' q5g q5d (by k_asm) (by k_asm) (by k_asm) (by k_mem) (by k_inst) (by k_is) (by ks_is) (by decide) (by k_is) ?_; intro q' h' F' N' l1; (try k_lt l1); (try dsimp only)))))
 k_with "m callWith ref" => ((k_here; k_dflt (first
 | (refine' q2a (by k_asm) (by k_mem) (by exact .inl rfl) ?_; k_whole; try dsimp only [List.nil_append, List.append_nil])
 | (refine' q2a (by k_asm) (by k_mem) (by exact .inr rfl) ?_; k_whole; try dsimp only [List.nil_append, List.append_nil]))))
 k_with "m call ref" => ((k_here; (with_reducible show wpAny _ _ (call (Value.ref _) [] _) _ _ _); k_dflt (first
 | (refine' q6z (by k_asm) (by k_mem) (by k_inst) ?_; k_whole)
 | (refine' q6q (by k_asm) (by k_asm) (by k_asm) (by k_mem) (by k_mem) (by k_mem) (by k_is) (by k_upd) (by exact hlen) ?_; k_whole; intro h' F' N'; (try k_sweep))
 | (refine' q55 (by k_asm) (by k_asm) (by k_mem) (by k_upd) ?_; k_whole; intro h' F' N'; (try k_sweep)))))
 k_with "k_inst" => (exact q1e (by with_reducible assumption) (Fr.keep (by k_asm)))
 k_with "m call ref" => ((k_here; (with_reducible show wpAny _ _ (call (Value.ref 246) _ _) _ _ _); k_dflt (refine' qdw (by k_asm) (by k_asm) (by k_asm) (by k_asm) (by k_asm) (by exact rfl) (by k_mem) (by k_mem) (by k_room) (by ktr_units) ?_); intro h' tk' t' F' N'; (try dsimp only)))
 trivial
section
theorem qgd {α : Type} {own keep rest : List α} (h : ∀ p ∈ keep, p ∈ own) : ∀ p ∈ keep ++ rest, p ∈ own ++ rest := by
 intro p hp
 rcases List.mem_append.mp hp with e | e
 ·exact List.mem_append_left _ (h p e)
 ·exact List.mem_append_right _ e
theorem sub2 {α : Type} {own : List α} {a b : α} (h1 : a ∈ own) (h2 : b ∈ own) : ∀ p ∈ [a, b], p ∈ own := by
 intro p hp
 rcases List.mem_cons.mp hp with e | e
 ·rw [e]; exact h1
 ·rw [List.mem_singleton.mp e]; exact h2
theorem sub3 {α : Type} {own : List α} {a b c : α} (h1 : a ∈ own) (h2 : b ∈ own) (h3 : c ∈ own) : ∀ p ∈ [a, b, c], p ∈ own := by
 intro p hp
 rcases List.mem_cons.mp hp with e | e
 ·rw [e]; exact h1
 ·exact sub2 h2 h3 p e
section
variable {prog : Program} {w : World} {A : Around} {E : Value -> Shared -> Prop} {s : Shared} {K : Frag} {x C D dx L b so : Addr} {ox : Obj} {odx : Obj} {h₀ : Heap} {m : Str -> Option Value} {news news' : List (Addr × Obj)} {its : List Value} {ep : Nat}
theorem q5g {id dt gid bt nm : String} {Bg : Builtin} (BD : Binds id dt gid bt nm Bg) {name : Str} {pl : Sem Bool} {Q : Value × List Value -> Shared -> Prop} (F : Fr h₀ L s.heap m) (X₀ : K.In h₀) (N : News h₀ L s.heap news) (hso : (so, ks_superObj D x C) ∈ news) (I : InstAt s.heap x ox C (some odx)) (ho : nsIn K cStatics "thirdparty.any" = some none)
  (hm : ks_superIn K C D name = some (some (.builtin id))) (hn : (name == ("__class__" : Str)) = false) (hi : mroIn K C (.type "list") = some true)
  (h : ∀ q h', Fr h₀ L h' m -> News h₀ L h' ((q, { cls := .type bt, data := .fields #[.builtin id, .ref x] }) :: news) -> (∀ p ∈ news, p.1 < q) -> Q (.ref q, []) { s with heap := h', toks := s.toks + 1 }) : wpAny (model prog w) A (getMethod (.ref so) name pl) Q E s := by
 have X : K.In s.heap := X₀.keeps F.keep
 have hL := q1h (M := model prog w) X I hi
 obtain ⟨hh, g, d, t, os⟩ := s
 cases hc : clsIn K C with
 | none => unfold ks_superIn at hm; rw [hc] at hm; cases hm
 | some cd =>
  unfold ks_superIn at hm
  rw [hc] at hm
  refine q3q BD (N _ hso).1 (looks_opaque X ho) (l₀ := cd.mro) ?_ rfl X hm (ks_ne X I hc) hn hL ?_
  ·exact fun A Q E s k q => wpAny_bind ((looks_clsIn X hc) A _ E s k (wpAny_pure q))
  ·(refine E_aa (ks_newsPush (s := ⟨hh, g, d, t, os⟩) (o := { cls := .type bt, data := .fields #[.builtin id, .ref x] }) F N rfl (Heap.get?_push_at rfl rfl) (fun b o e => Heap.get?_push_of_some _ e)) fun F' N' l' => ?_)
   exact h _ _ F' N' l'
theorem q2a {M : Model} {bt id : String} {pos : Pos} {first : List Value} {env : Env} {Q : Value -> Shared -> Prop} (N : News h₀ L s.heap news) (hb : (b, { cls := .type bt, data := .fields #[.builtin id, .ref x] }) ∈ news) (hbt : bt = "method-wrapper" ∨ bt = "builtin_function_or_method") (h : wpAny M A (call (.ref b) (first ++ [])) Q E s) :
  wpAny M A (callWith pos (.ref b) first (backTo pos (starEach [] env)) []) Q E s := by
 refine callWith_of (P := fun h => h.get? b = some { cls := .type bt, data := .fields #[.builtin id, .ref x] }) rfl (fun h X => ⟨.machine, .inr (.inl rfl), (Looks.ld (part := none) X).andThen ?_⟩) (evalArgs_nil3 ⟨(N _ hb).1, h⟩)
 rcases hbt with rfl | rfl <;> exact .now
theorem q1e {h h' : Heap} (I : InstAt h x ox C (some odx)) (hk : ∀ b o, h.get? b = some o -> h'.get? b = some o) : InstAt h' x ox C (some odx) := by
 refine ⟨hk _ _ I.at_, I.cls, I.no, ?_⟩
 have hd := I.dict
 cases e : ox.dict with
 | none => rw [e] at hd; exact hd.elim
 | some dx => rw [e] at hd; exact hk _ _ hd
theorem q5y {o : Obj} {f : Obj -> Obj} (F : Fr h₀ L s.heap m) (N : News h₀ L s.heap news) (U : Upd x o (f o) news news') (hn : (f o).isFreed = false) : Fr h₀ L (s.heap.update x f) m /\ News h₀ L (s.heap.update x f) news' := by
 (refine q10 (U.split) fun pre post z1z z2z a b => ?_; subst z1z; subst z2z)
 have z := N (x, o) (List.mem_append.mpr (.inr (.head _)))
 have hs : Heap.SameBut x s.heap (s.heap.update x f) := Heap.SameBut.update ..
 exact ⟨F.change hs z.2.1 z.2.2, news_set N a b hs (Heap.get?_update_self _ z.1 hn)⟩
theorem q6z {Q : Value -> Shared -> Prop} (N : News h₀ L s.heap news) (hb : (b, { cls := .type "method-wrapper", data := .fields #[.builtin "list.__len__", .ref x] }) ∈ news) (I : InstAt s.heap x (accO its ep dx) 249 (some odx))
  (h : Q (.int (its.length : Int) s.toks) { s with toks := s.toks + 1 }) : wpAny (model prog w) A (call (.ref b) []) Q E s := by
 have k1 := (N _ hb).1
 have k2 := I.at_
 obtain ⟨hh, g, d, t, os⟩ := s
 exact q3i k1 (.inl rfl) PySem.F.slot_list_len.plain PySem.F.entry_list_len (fun q => q4l (by decide +kernel) (PySem.F.args_list_len_1 _) q) (qeo k2 ⟨_, rfl, h⟩)
theorem q6q {v : Value} {Q : Value -> Shared -> Prop} (F : Fr h₀ L s.heap m) (X₀ : (Mine.hd.heap_1 w.params).In h₀) (N : News h₀ L s.heap news) (hb : (b, { cls := .type "builtin_function_or_method", data := .fields #[.builtin "list.pop", .ref x] }) ∈ news) (hx : (x, accO (its ++ [v]) ep dx) ∈ news) (hdx : (dx, odx) ∈ news)
  (hm : mroIn (Mine.hd.heap_1 w.params) 249 (.type "module") = some false) (U : Upd x (accO (its ++ [v]) ep dx) (accO its (ep + 1) dx) news news') (hz : its.length < sizeLine)
  (h : ∀ h', Fr h₀ L h' m -> News h₀ L h' news' -> Q v { s with heap := h' }) : wpAny (model prog w) A (call (.ref b) []) Q E s := by
 have k1 := (N _ hb).1
 have k2 := (N _ hx).1
 have I := q31 N hx hdx
 have X := X₀.keeps F.keep
 have e : Obj.mapSeq (fun xs => xs.eraseIdxIfInBounds its.length) (accO (its ++ [v]) ep dx) = accO its (ep + 1) dx := by
  have h1 : (its ++ [v]).toArray.eraseIdxIfInBounds its.length = its.toArray := by
   rw [List.eraseIdxIfInBounds_toArray]
   congr 1
   rw [List.eraseIdx_append_of_length_le (Nat.le_refl _)]
   simp
  simp only [Obj.mapSeq, accO, h1]
  congr 2
  simp
 (refine E_a (q5y (f := Obj.mapSeq fun xs => xs.eraseIdxIfInBounds its.length) F N (by rw [e]; exact U) (by rw [e]; rfl)) fun U1 U2 => ?_)
 obtain ⟨hh, g, d, t, os⟩ := s
 exact q3i k1 (.inr rfl) PySem.F.slot_list_pop.plain PySem.F.entry_list_pop (fun q => q9s X I hm q) (qel k2 hz ⟨_, rfl, h _ U1 U2⟩)
theorem q55 {Q : Value -> Shared -> Prop} (F : Fr h₀ L s.heap m) (N : News h₀ L s.heap news) (hb : (b, { cls := .type "method-wrapper", data := .fields #[.builtin "list.__init__", .ref x] }) ∈ news) (U : Upd x (accO [] ep dx) (accO [] ep dx) news news')
  (h : ∀ h', Fr h₀ L h' m -> News h₀ L h' news' -> Q .none { s with heap := h' }) : wpAny (model prog w) A (call (.ref b) []) Q E s := by
 have k1 := (N _ hb).1
 (refine q10 (U.split) fun pre post e1 e2 a b' => ?_)
 have k2 := (N (x, accO [] ep dx) (by rw [e1]; exact List.mem_append.mpr (.inr (.head _)))).1
 (refine E_a (q5y (o := accO [] ep dx) (f := Obj.mapSeq fun _ => #[]) F N U rfl) fun U1 U2 => ?_)
 obtain ⟨hh, g, d, t, os⟩ := s
 exact q3i k1 (.inl rfl) PySem.F.slot_list_init.plain PySem.F.entry_list_init (fun q => q4l (by decide +kernel) (PySem.F.args_list_init_1 _) q) (qc5 k2 ⟨_, rfl, h _ U1 U2⟩)
end
theorem qdw {w : World} {p : Program} {loose : List Str} {mean : ExcName -> Option Value} {mg mb : Str -> Option Value}
 {dp un : Nat} {gd : Option (List Code)} {cn : Str} {cs : Scope} {a : Addr} {ccd : Value} {cl : List (Str × Addr)} {outer : List Env} {A₀ : Around} {base h₀ : Heap} {L : Addr} {m : Str -> Option Value} {s : Shared}
 {Q E : Value -> Shared -> Prop} {a1 dx : Addr} {its : List Value} {ep : Nat} {es : List DictEntry} {nd : Nat} {news : List (Addr × Obj)}
 (B : Below A₀ base outer h₀) (F : Fr h₀ L s.heap m) (X : (Mine.hd.heap_1 w.params).In h₀) (N : News h₀ L s.heap news) (T : Top p loose mean mg mb h₀) (hk : cs.kind = .function)
 (h1 : (a1, accO its ep dx) ∈ news) (h2 : (dx, dictOf es nd) ∈ news)
 (hd : dp + 20 < recursionLimit) (hu : un + 200 < cLine)
 (ret : ∀ h' tk' t', Fr h₀ L h' m -> News h₀ L h' news -> Q (.int (its.length : Int) t') { s with heap := h', toks := tk' }) :
 wpAny (model Challenge.rw_un0030_01.row.prog w) (ktrTop dp un gd cn cs L a ccd cl outer) (call (.ref 246) [.ref a1]) Q E s := by
 revert X
 k_fill
 intro X
 have N0 : News h₀ L s.heap [] := fun q hq => by cases hq
 have hs0 : ∀ p ∈ news, ∀ q ∈ ([] : List (Addr × Obj)), p.1 ≠ q.1 := fun p hp q hq => by cases hq
 refine wpAny_call ?_
 k_dflt ((refine' q1s (by k_asm) (by k_asm) (by k_asm) N0 N hs0 (by k_asm) (by exact rfl) (by exact rfl) (by first | exact rfl | assumption) (by k_is) (by k_is) (by k_room) (by exact BindsTo.of_eq rfl) (by exact locs rfl) ?_ (by decide) (by exact rfl) (by exact rfl) (by exact rfl); intro g' L' h' FG' F' N' B' X' T' l1 hr1; (try k_lt l1); (try dsimp only); (try k_lift B')))
 have hI : InstAt g' a1 (accO its ep dx) 249 (some (dictOf es nd)) := ⟨hr1 _ h1, rfl, rfl, hr1 _ h2⟩
 repeat (first | (k_unfold; (try dsimp only)) | walk1 | (dsimp only; walk1))
 all_goals (try k_data)
 rename News h₀ L _ news => NR
 exact ret _ _ _ (by k_asm) NR
theorem qdi {w : World} {p : Program} {loose : List Str} {mean : ExcName -> Option Value} {mg mb : Str -> Option Value}
 {dp un : Nat} {gd : Option (List Code)} {cn : Str} {cs : Scope} {a : Addr} {ccd : Value} {cl : List (Str × Addr)} {outer : List Env} {A₀ : Around} {base h₀ : Heap} {L : Addr} {m : Str -> Option Value} {s : Shared}
 {Q E : Value -> Shared -> Prop} {a1 dx : Addr} {its : List Value} {v : Value} {ep nd : Nat} {hs1 : Int} {sz : Int} {ts tz : Tok} {rest : List (Addr × Obj)}
 (B : Below A₀ base outer h₀) (F : Fr h₀ L s.heap m) (X : (Mine.hd.heap_1 w.params).In h₀) (N : News h₀ L s.heap [(a1, accO (its ++ [v]) ep dx), (dx, dictOf [⟨hs1, .str q0o ts, .int sz tz⟩] nd)]) (hr : News h₀ L s.heap rest) (hs : ∀ p ∈ rest, ∀ q ∈ ([(a1, accO (its ++ [v]) ep dx), (dx, dictOf [⟨hs1, .str q0o ts, .int sz tz⟩] nd)] : List (Addr × Obj)), p.1 ≠ q.1) (T : Top p loose mean mg mb h₀) (hk : cs.kind = .function)
 (hne : @Ne Nat a1 dx) (hlen : its.length < sizeLine)
 (hd : dp + 30 < recursionLimit) (hu : un + 400 < cLine)
 (ret : ∀ h' tk', Fr h₀ L h' m -> News h₀ L h' ((a1, accO its (ep + 1) dx) :: (dx, dictOf [⟨hs1, .str q0o ts, .int sz tz⟩] nd) :: rest) -> Q v { s with heap := h', toks := tk' }) :
 wpAny (model Challenge.rw_un0030_01.row.prog w) (ktrTop dp un gd cn cs L a ccd cl outer) (call (.ref 209) [.ref a1]) Q E s := by
 revert X
 k_fill
 intro X
 have hl9 : (its ++ [v]).length = its.length + 1 := by simp
 refine wpAny_call ?_
 k_dflt ((refine' q1s (by k_asm) (by k_asm) (by k_asm) N hr hs (by k_asm) (by exact rfl) (by exact rfl) (by first | exact rfl | assumption) (by k_is) (by k_is) (by k_room) (by exact BindsTo.of_eq rfl) (by exact locs rfl) ?_ (by decide) (by exact rfl) (by exact rfl) (by exact rfl); intro g' L' h' FG' F' N' B' X' T' l1 hr1; (try k_lt l1); (try dsimp only); (try k_lift B')))
 repeat ((fail_if_success (k_here; refine ite_neg ?_ ?_)); (first | (k_unfold; (try dsimp only)) | (dsimp only; walk1) | walk1))
 walk1
 refine wpAt_of_wpAny (wpAny_execs_nil ?_)
 dsimp only
 refine ks_wpAt_execs_cons ?_
 refine ks_wpAt_Return_some ?_
 refine ks_wpAt_MethodCall ?_
 repeat (first | (k_unfold; (try dsimp only)) | (dsimp only; walk1) | walk1)
 all_goals (try k_data)
 rename News h₀ L _ rest => NR
 rename News h₀ L _ (_ :: _) => NO
 exact ret _ _ (by k_asm) (News.sub (News.both NO NR) (qgd (sub2 (by k_mem) (by k_mem))))
theorem qbz {w : World} {p : Program} {loose : List Str} {mean : ExcName -> Option Value} {mg mb : Str -> Option Value}
 {dp un : Nat} {gd : Option (List Code)} {cn : Str} {cs : Scope} {a : Addr} {ccd : Value} {cl : List (Str × Addr)} {outer : List Env} {A₀ : Around} {base h₀ : Heap} {L : Addr} {m : Str -> Option Value} {s : Shared}
 {Q E : Value -> Shared -> Prop} {a1 dx : Addr} {ep nd : Nat} {hs1 : Int} {sz : Int} {ts tz : Tok} {rest : List (Addr × Obj)}
 (B : Below A₀ base outer h₀) (F : Fr h₀ L s.heap m) (X : (Mine.hd.heap_1 w.params).In h₀) (N : News h₀ L s.heap [(a1, accO [] ep dx), (dx, dictOf [⟨hs1, .str q0o ts, .int sz tz⟩] nd)]) (hr : News h₀ L s.heap rest) (hs : ∀ p ∈ rest, ∀ q ∈ ([(a1, accO [] ep dx), (dx, dictOf [⟨hs1, .str q0o ts, .int sz tz⟩] nd)] : List (Addr × Obj)), p.1 ≠ q.1) (T : Top p loose mean mg mb h₀) (hk : cs.kind = .function)
 (hne : @Ne Nat a1 dx)
 (hd : dp + 30 < recursionLimit) (hu : un + 400 < cLine)
 (ret : ∀ h' tk' D t1 t2, Fr h₀ L h' m -> News h₀ L h' ((D, tupO "" "" t1 t2) :: (a1, accO [] ep dx) :: (dx, dictOf [⟨hs1, .str q0o ts, .int sz tz⟩] nd) :: rest) -> Q (.ref D) { s with heap := h', toks := tk' }) :
 wpAny (model Challenge.rw_un0030_01.row.prog w) (ktrTop dp un gd cn cs L a ccd cl outer) (call (.ref 209) [.ref a1]) Q E s := by
 revert X
 k_fill
 intro X
 have hl9 : ([] : List Value).length = 0 := rfl
 refine wpAny_call ?_
 k_dflt ((refine' q1s (by k_asm) (by k_asm) (by k_asm) N hr hs (by k_asm) (by exact rfl) (by exact rfl) (by first | exact rfl | assumption) (by k_is) (by k_is) (by k_room) (by exact BindsTo.of_eq rfl) (by exact locs rfl) ?_ (by decide) (by exact rfl) (by exact rfl) (by exact rfl); intro g' L' h' FG' F' N' B' X' T' l1 hr1; (try k_lt l1); (try dsimp only); (try k_lift B')))
 repeat (first | (k_unfold; (try dsimp only)) | (dsimp only; walk1) | walk1)
 all_goals (try k_data)
 rename News h₀ L _ rest => NR
 rename News h₀ L _ (_ :: _) => NO
 exact ret _ _ _ _ _ (by k_asm) (News.sub (News.both NO NR) (qgd (sub3 (by k_mem) (by k_mem) (by k_mem))))
end
example : True := by
 k_with_none
 trivial
section
section
variable {prog : Program} {w : World} {A : Around} {E : Value -> Shared -> Prop} {s : Shared} {K : Frag} {x C dx L : Addr} {ox od : Obj} {h₀ : Heap} {m : Str -> Option Value} {news news' : List (Addr × Obj)} {its : List Value} {ep : Nat}
theorem q6r {M : Model} {id : String} {name : Str} {args : List Value} {Q : Option Value -> Shared -> Prop} (X : K.In s.heap) (I : InstAt s.heap x ox C (some od)) (hs : findIn K (.ref C) name = some (some (.builtin id))) (hb : bindSpecial (.builtin id) (.ref x) = pure (.builtin id, [.ref x]))
  (h : wpAny M A (call (.builtin id) (.ref x :: args)) (fun v => Q (some v)) E s) : wpAny M A (callSpecial? (.ref x) name args) Q E s :=
 wpAny_bind (wpAny_bind (I.type.here ((looks_findIn X hs).here (wpAny_holding (wpAny_bind (wpAny_of_eq hb (wpAny_bind (wpAny_mono h (fun _ _ z => wpAny_pure z) fun _ _ z => z))))))))
theorem qe8 {M : Model} {k : Value} {name : Str} {Q : Value -> Shared -> Prop} (X : K.In s.heap) (I : InstAt s.heap x ox C (some od)) (hd : mroIn K C (.type "collections.deque") = some false) (h : Q k s) : wpAny M A (sequenceKey (.ref x) k name) Q E s := by
 unfold sequenceKey
 refine wpAny_bind (I.type.here ?_)
 show wpAny _ _ ((seqItemTypes.anyM fun n => isSubtype (.ref C) (.type n)) >>= _) _ _ _
 refine wpAny_bind ?_
 show wpAny _ _ (isSubtype (.ref C) (.type "collections.deque") >>= _) _ _ _
 refine wpAny_bind ((looks_mroIn X hd).here ?_)
 exact wpAny_pure (wpAny_pure h)
theorem q6l {i : Value} {Q : Value -> Shared -> Prop} (X : K.In s.heap) (I : InstAt s.heap x ox C (some od)) (hd : mroIn K C (.type "collections.deque") = some false) (hm : mroIn K C (.type "list") = some true) (hs : findIn K (.ref C) "__getitem__" = some (some (.builtin "list.__getitem__")))
  (h : wpAny (model prog w) A.in1 (Builtin.«list.__getitem__» ⟨[.ref x, i], []⟩) (fun fin s' => ∃ v, fin = .done (.ret v) /\ Q v s') E s) : wpAny (model prog w) A (getItem (.ref x) i) Q E s := by
 have slot := slot_list_getitem
 unfold getItem
 refine wpAny_holding (wpAny_bind (qe8 X I hd (wpAny_bind (q6r X I hs (slot.bind _) ?_))))
 exact q29 slot.plain entry_list_getitem (n := "__getitem__") (by decide +kernel) (by decide +kernel) (q1h X I hm) (args_list_getitem _ _) (wpAny_mono h (fun fin s' z => by (refine E_ea z fun v e q => ?_; (try clear z)); exact ⟨v, e, wpAny_pure q⟩) fun _ _ z => z)
theorem qbl {i v : Value} {Q : Unit -> Shared -> Prop} (X : K.In s.heap) (I : InstAt s.heap x ox C (some od)) (hd : mroIn K C (.type "collections.deque") = some false) (hm : mroIn K C (.type "list") = some true) (hs : findIn K (.ref C) "__setitem__" = some (some (.builtin "list.__setitem__")))
  (h : wpAny (model prog w) A.in1 (Builtin.«list.__setitem__» ⟨[.ref x, i, v], []⟩) (fun fin s' => ∃ v, fin = .done (.ret v) /\ Q () s') E s) : wpAny (model prog w) A (setItem (.ref x) i v) Q E s := by
 have slot := slot_list_setitem
 unfold setItem
 refine wpAny_holding (wpAny_bind (qe8 X I hd (wpAny_bind (q6r X I hs (slot.bind _) ?_))))
 exact q29 slot.plain entry_list_setitem (n := "__setitem__") (by decide +kernel) (by decide +kernel) (q1h X I hm) (args_list_setitem _ _ _) (wpAny_mono h (fun fin s' z => by (refine E_ea z fun v e q => ?_; (try clear z)); exact ⟨v, e, wpAny_pure q⟩) fun _ _ z => z)
theorem qcd {k : Int} {t : Tok} {v : Value} {Q : Fin -> Shared -> Prop} (hx : s.heap.get? x = some (accO its ep dx)) (h0 : 0 <= k) (hv0 : its[k.toNat]? = some v) (hi : k < 2 ^ 63) (hq : Q (.done (.ret v)) s) :
  wpAny (model prog w) A (Builtin.«list.__getitem__» ⟨[.ref x, .int k t], []⟩) Q E s := by
 show wpAny _ _ (Builtin.List.listSubscript? (.int k t) >>= _) _ _ s
 refine wpAny_bind (wpAny_listSubscript_int (fitsIndex_of h0 hi) ?_)
 clear hi
 (refine E_e (Int.eq_ofNat_of_zero_le h0) fun i z1z => ?_; subst z1z)
 have hv : its[i]? = some v := hv0
 show wpAny _ _ ((seqItemAt x i >>= fun r => pure (r.map (i, ·))) >>= _) _ _ s
 refine wpAny_bind (wpAny_bind (wpAny_seqItemAt (items := its.toArray) hx rfl (wpAny_pure ?_)))
 rw [show its.toArray[i]? = some v from by rw [List.getElem?_toArray]; exact hv]
 first
  | exact wpAny_bind (wpAny_pure (wpAny_pure hq))
  | exact wpAny_pure hq
theorem q6c {sl : Addr} {vl vu : Value} {lo hi : Option Int} {Q : Value × Value × Value -> Shared -> Prop} {M : Model} (hs : s.heap.IsSliceOf sl vl vu .none) (pl : IsPart vl lo) (pu : IsPart vu hi) (h : Q (rawPart lo, rawPart hi, rawPart none) s) :
  wpAny M A (Builtin.List.listSliceParts (.ref sl)) Q E s := by
 (refine q1u (id hs) fun os hos hcs hds => ?_)
 rw [listSliceParts_eq]
 refine wpAny_bind (wpAny_field hos hds (x := .none) rfl (wpAny_bind (wpAny_listPart .none ?_)))
 rw [if_neg (show ¬ ((rawPart none == rawInt 0) = true) from Bool.false_ne_true)]
 refine wpAny_bind (wpAny_field hos hds (x := vl) rfl (wpAny_bind (wpAny_listPart pl ?_)))
 exact wpAny_bind (wpAny_field hos hds (x := vu) rfl (wpAny_bind (wpAny_listPart pu (wpAny_pure h))))
theorem qe1 {sl : Addr} {vl vu : Value} {Q : Option Int -> Shared -> Prop} {M : Model} (hs : s.heap.IsSliceOf sl vl vu .none) (h : Q none s) : wpAny M A (Builtin.List.listSubscript? (.ref sl)) Q E s := by
 (refine q1u (id hs) fun os hos hcs hds => ?_)
 have hTs : s.TypeIs (.ref sl) "slice" := ⟨os, hos, hcs⟩
 unfold Builtin.List.listSubscript?
 refine wpAny_bind (wpAny_specialOf hTs slice_no_index ?_)
 simp only [Option.isNone_none, if_true]
 exact wpAny_pure h
theorem qey {sl : Addr} {vl vu : Value} {lo hi : Option Int} {Q : Fin -> Shared -> Prop} (hx : s.heap.get? x = some (accO its ep dx)) (hs : s.heap.IsSliceOf sl vl vu .none) (pl : IsPart vl lo) (pu : IsPart vu hi) (hz : its.length <= sizeLine)
  (hq : Q (.done (.ret (.ref s.heap.objs.size))) { s with heap := s.heap.push { cls := .type "list", data := .seq (slicePick its.toArray lo hi none) } }) :
  wpAny (model prog w) A (Builtin.«list.__getitem__» ⟨[.ref x, .ref sl], []⟩) Q E s := by
 (refine q1u (id hs) fun os hos hcs hds => ?_)
 have hTs : s.TypeIs (.ref sl) "slice" := ⟨os, hos, hcs⟩
 unfold Builtin.«list.__getitem__»
 refine wpAny_bind (wpAny_pure ?_)
 dsimp only
 refine wpAny_bind (qe1 hs ?_)
 refine wpAny_bind (wpAny_typeOf hTs ?_)
 rw [if_neg (by decide)]
 refine wpAny_bind (q6c hs pl pu ?_)
 refine wpAny_bind (m := Builtin.List.listItems (.ref x)) ?_
 unfold Builtin.List.listItems
 refine wpAny_bind (wpAny_seqItems hx rfl (wpAny_pure ?_))
 refine wpAny_bind (wpAny_of_eq (sliceIndices_raw lo hi none its.toArray.size (by simp)) ?_)
 exact wpAny_bind (wpAny_newObj_type (wpAny_pure hq) (Nat.le_trans (slicePick_size_le its.toArray lo hi none) (by simpa using hz)))
theorem q9o {l : Addr} {vs : List Value} {k : Nat} {msg : String} {Q : Array Value -> Shared -> Prop} (hl : s.heap.get? l = some (W.listOf vs.toArray k)) (h : Q vs.toArray s) : wpAny (model prog w) A (Builtin.List.listAllItems (.ref l) msg) Q E s := by
 unfold Builtin.List.listAllItems
 refine wpAny_bind (wpAny_typeOf (T := "list") ⟨_, hl, rfl⟩ ?_)
 rw [if_pos (by decide)]
 unfold Builtin.List.listItems
 exact wpAny_bind (wpAny_seqItems hl rfl (wpAny_pure h))
theorem qfh {sl l : Addr} {vl vu : Value} {lo hi : Option Int} {vs : List Value} {k : Nat} {b e : Nat} {Q : Fin -> Shared -> Prop} (hx : s.heap.get? x = some (accO its ep dx)) (hs : s.heap.IsSliceOf sl vl vu .none) (pl : IsPart vl lo) (pu : IsPart vu hi) (hl : s.heap.get? l = some (W.listOf vs.toArray k)) (hne : x ≠ l)
  (hb : sliceBounds lo hi none its.length = ((b : Int), (e : Int), 1)) (hz : its.length <= sizeLine) (hz2 : its.length + vs.length <= sizeLine) (hz3 : (its.toArray.extract 0 b ++ vs.toArray ++ its.toArray.extract (max b e) its.length).size <= sizeLine + 1)
  (hq : Q (.done (.ret .none)) { s with heap := s.heap.update x (Obj.mapSeq fun xs => xs.extract 0 b ++ vs.toArray ++ xs.extract (max b e) xs.size) }) :
  wpAny (model prog w) A (Builtin.«list.__setitem__» ⟨[.ref x, .ref sl, .ref l], []⟩) Q E s := by
 (refine q1u (id hs) fun os hos hcs hds => ?_)
 have hTs : s.TypeIs (.ref sl) "slice" := ⟨os, hos, hcs⟩
 show wpAny _ _ (Builtin.List.listSubscript? (.ref sl) >>= _) _ _ s
 refine wpAny_bind (qe1 hs ?_)
 show wpAny _ _ (typeOf (.ref sl) >>= _) _ _ s
 refine wpAny_bind (wpAny_typeOf hTs ?_)
 rw [if_neg (by decide)]
 refine wpAny_bind (q6c hs pl pu ?_)
 have hsame : Builtin.List.listSameRef (.ref x) (.ref l) = false := by
  show (x == l) = false
  exact beq_false_of_ne hne
 dsimp only
 rw [hsame, if_neg (by decide)]
 refine wpAny_bind (q9o hl ?_)
 refine wpAny_bind (m := Builtin.List.listItems (.ref x)) ?_
 unfold Builtin.List.listItems
 refine wpAny_bind (wpAny_seqItems hx rfl (wpAny_pure ?_))
 refine wpAny_bind (wpAny_of_eq (sliceIndices_raw lo hi none its.toArray.size (by simp)) ?_)
 rw [List.size_toArray, hb]
 dsimp only
 rw [if_pos (by decide)]
 refine wpAny_bind (wpAny_rule ?_)
 have ht : ¬ Builtin.List.listTooLong (its.length + vs.toArray.size) = true := by
  simp [Builtin.List.listTooLong]
  exact hz2
 rw [if_neg ht]
 have e1 : ((b : Int)).toNat = b := Int.toNat_natCast b
 have e2 : (max (b : Int) (e : Int)).toNat = max b e := by exact o187
 rw [e1, e2]
 refine wpAny_bind (wpAny_updateSeq hx rfl (wpAny_bind (wpAny_letGo (wpAny_pure hq))) (by simpa using hz) ?_)
 simpa using hz3
end
end
section
section
variable {prog : Program} {w : World} {A : Around} {E : Value -> Shared -> Prop} {s : Shared} {K : Frag} {x C dx L : Addr} {ox od : Obj} {h₀ : Heap} {m : Str -> Option Value} {news news' : List (Addr × Obj)} {its : List Value} {ep : Nat}
theorem qfw {pre post : List (Addr × Obj)} {o o' : Obj} (a : ∀ p ∈ pre, p.1 ≠ x) (b : ∀ p ∈ post, p.1 ≠ x) : Upd x o o' (pre ++ (x, o) :: post) (pre ++ (x, o') :: post) := by
 induction pre with
 | nil => exact .head b
 | cons p r ih => exact .tail (a p (.head _)) (ih fun q hq => a q (.tail _ hq))
theorem qe7 {value slice : Expr} {i : Value} {ops : List Value} {Q : Value -> Shared -> Prop} (X : K.In s.heap) (I : InstAt s.heap x ox C (some od)) (hs : findIn K (.ref C) "__getitem__" = some (some (.builtin "list.__getitem__"))) (hg : wpAny (model prog w) A (getItem (.ref x) i) Q E s)
  (hsub : subscripted slice false (.ref x) i = operate ops (getItem (.ref x) i)) : wpAny (model prog w) A (subscriptTail value slice (.ref x) i) Q E s := by
 unfold subscriptTail
 refine wpAny_bind ?_
 unfold getitemInPython
 have fin : wpAny (model prog w) A (subscripted slice false (.ref x) i) (fun r s₃ => wpAny (model prog w) A (letTemporaryGo value (.ref x) r >>= fun _ => pure r) Q E s₃) E s := by
  rw [hsub]
  exact wpAny_operating (wpAny_mono hg (fun r s₃ h₃ => wpAny_bind (wpAny_letTemporaryGo (wpAny_pure h₃))) fun _ _ x => x)
 refine wpAny_bind (wpAny_bind (I.type.here ((looks_findIn X hs).here ?_)))
 exact wpAny_pure (wpAny_bind fin)
theorem qg9 {value slice : Expr} {k : Int} {u : Tok} {v : Value} {Q : Value -> Shared -> Prop} (F : Fr h₀ L s.heap m) (X₀ : K.In h₀) (I : InstAt s.heap x (accO its ep dx) C (some od)) (hd : mroIn K C (.type "collections.deque") = some false) (hm : mroIn K C (.type "list") = some true) (hs : findIn K (.ref C) "__getitem__" = some (some (.builtin "list.__getitem__")))
  (h0 : 0 <= k) (hi : k < 1000000) (hv : its[k.toNat]? = some v) (h : Q v s) (hsub : subscripted slice false (.ref x) (.int k u) = operate [.ref x, .int k u] (getItem (.ref x) (.int k u))) : wpAny (model prog w) A (subscriptTail value slice (.ref x) (.int k u)) Q E s :=
 qe7 (X₀.keeps F.keep) I hs (q6l (X₀.keeps F.keep) I hd hm hs (qcd I.at_ h0 hv (by exact o349 hi) ⟨v, rfl, h⟩)) hsub
variable {hh : Heap} {g : Array GenState} {d : Drawn} {t : Nat} {os : OsState}
theorem qh1 {value : Expr} {lw up : Option Expr} {ps : Pos} {vl vu : Value} {lo hi : Option Int} {Q : Value -> Shared -> Prop} (F : Fr h₀ L hh m) (X₀ : K.In h₀) (N : News h₀ L hh news) (I : InstAt hh x (accO its ep dx) C (some od)) (hd : mroIn K C (.type "collections.deque") = some false) (hm : mroIn K C (.type "list") = some true) (hs : findIn K (.ref C) "__getitem__" = some (some (.builtin "list.__getitem__")))
  (pl : IsPart vl lo) (pu : IsPart vu hi) (hz : its.length <= 1000000)
  (h : ∀ D h', Fr h₀ L h' m -> News h₀ L h' ((D, W.listOf (slicePick its.toArray lo hi none) 0) :: news) -> (∀ p ∈ news, p.1 < D) -> Q (.ref D) ⟨h', g, d, t, os⟩) :
  wpAny (model prog w) A (subscriptTail value (.Slice lw up none ps) (.ref x) (.ref hh.objs.size)) Q E ⟨hh.push { cls := .type "slice", data := .fields #[vl, vu, .none] }, g, d, t, os⟩ := by
 have F1 := F.push { cls := .type "slice", data := .fields #[vl, vu, .none] }
 have kp : ∀ b o, hh.get? b = some o -> (hh.push { cls := .type "slice", data := .fields #[vl, vu, .none] }).get? b = some o := fun b o e => Heap.get?_push_of_some _ e
 have I1 := q1e I kp
 have N1 : News h₀ L (hh.push { cls := .type "slice", data := .fields #[vl, vu, .none] }) news := fun q hq => ⟨kp _ _ (N q hq).1, (N q hq).2⟩
 have hz' : its.length <= sizeLine := Nat.le_trans hz (by decide)
 refine qe7 (s := ⟨_, g, d, t, os⟩) (ops := [.ref hh.objs.size, .ref x]) (X₀.keeps F1.keep) I1 hs (q6l (s := ⟨_, g, d, t, os⟩) (X₀.keeps F1.keep) I1 hd hm hs (qey (s := ⟨_, g, d, t, os⟩) I1.at_ (Heap.IsSliceOf.new ..) pl pu hz' ⟨_, rfl, h _ _ (F1.push _) ?_ ?_⟩)) rfl
 ·exact N1.push F1 _
 ·intro q hq
  exact Heap.lt_size (N1 q hq).1
theorem qhd {l : Addr} {vl vu : Value} {lo hi : Option Int} {vs : List Value} {k b e : Nat} {gN : Obj -> List (Addr × Obj)} {Q : Unit -> Shared -> Prop} (F : Fr h₀ L hh m) (X₀ : K.In h₀) (N : News h₀ L hh news) (I : InstAt hh x (accO its ep dx) C (some od)) (hd : mroIn K C (.type "collections.deque") = some false) (hm : mroIn K C (.type "list") = some true) (hs : findIn K (.ref C) "__setitem__" = some (some (.builtin "list.__setitem__")))
  (pl : IsPart vl lo) (pu : IsPart vu hi) (hl : hh.get? l = some (W.listOf vs.toArray k)) (hb : sliceBounds lo hi none its.length = ((b : Int), (e : Int), 1)) (hz : its.length + vs.length <= 1000000)
  (U : UpdF x (accO its ep dx) news gN)
  (h : ∀ ep' h', Fr h₀ L h' m -> News h₀ L h' (gN (accO (its.take b ++ vs ++ its.drop (max b e)) ep' dx)) -> Q () ⟨h', g, d, t, os⟩) :
  wpAny (model prog w) A (setItem (.ref x) (.ref hh.objs.size) (.ref l)) Q E ⟨hh.push { cls := .type "slice", data := .fields #[vl, vu, .none] }, g, d, t, os⟩ := by
 have F1 := F.push { cls := .type "slice", data := .fields #[vl, vu, .none] }
 have kp : ∀ b o, hh.get? b = some o -> (hh.push { cls := .type "slice", data := .fields #[vl, vu, .none] }).get? b = some o := fun b o e => Heap.get?_push_of_some _ e
 have I1 := q1e I kp
 have N1 : News h₀ L (hh.push { cls := .type "slice", data := .fields #[vl, vu, .none] }) news := fun q hq => ⟨kp _ _ (N q hq).1, (N q hq).2⟩
 have hne : x ≠ l := by
  intro e'
  have e1 := I.at_
  rw [e', hl] at e1
  cases e1
 have hsz : its.length + vs.length <= sizeLine := Nat.le_trans hz (by decide)
 have hz' : its.length <= sizeLine := Nat.le_trans (Nat.le_add_right _ _) hsz
 have ex : ∀ (b e : Nat), (its.toArray.extract 0 b ++ vs.toArray ++ its.toArray.extract (max b e) its.length) = (its.take b ++ vs ++ its.drop (max b e)).toArray := by
  intro b e
  simp [List.extract_toArray, List.extract_eq_drop_take]
  rw [List.take_of_length_le]
  simp
 have hz3 : (its.toArray.extract 0 b ++ vs.toArray ++ its.toArray.extract (max b e) its.length).size <= sizeLine + 1 := by
  rw [ex]
  simp
  exact o280 hsz
 (refine q10 (U.split) fun pre post hn hg a1 a2 => ?_)
 have eo : ∃ ep', Obj.mapSeq (fun xs => xs.extract 0 b ++ vs.toArray ++ xs.extract (max b e) xs.size) (accO its ep dx) = accO (its.take b ++ vs ++ its.drop (max b e)) ep' dx := by
  have h1 : ∃ n', Obj.mapSeq (fun xs => xs.extract 0 b ++ vs.toArray ++ xs.extract (max b e) xs.size) (accO its ep dx) = ⟨.ref 249, some dx, .seq (its.toArray.extract 0 b ++ vs.toArray ++ its.toArray.extract (max b e) its.length) n', #[]⟩ := ⟨_, rfl⟩
  obtain ⟨n', h1⟩ := h1
  rw [ex] at h1
  exact ⟨n', h1⟩
 obtain ⟨ep', eo⟩ := eo
 have U' : Upd x (accO its ep dx) (Obj.mapSeq (fun xs => xs.extract 0 b ++ vs.toArray ++ xs.extract (max b e) xs.size) (accO its ep dx)) news (gN (accO (its.take b ++ vs ++ its.drop (max b e)) ep' dx)) := by
  rw [eo, hn, hg]
  exact qfw a1 a2
 obtain ⟨U1, U2⟩ := q5y (s := ⟨_, g, d, t, os⟩) (f := Obj.mapSeq fun xs => xs.extract 0 b ++ vs.toArray ++ xs.extract (max b e) xs.size) F1 N1 U' (by rw [eo]; rfl)
 exact qbl (s := ⟨_, g, d, t, os⟩) (X₀.keeps F1.keep) I1 hd hm hs (qfh (s := ⟨_, g, d, t, os⟩) I1.at_ (Heap.IsSliceOf.new ..) pl pu (kp _ _ hl) hne hb hz' hsz hz3 ⟨_, rfl, h ep' _ U1 U2⟩)
end
end
theorem qgr (n : Nat) : sliceBounds none none none n = (((0 : Nat) : Int), (n : Int), 1) := by simp [sliceBounds]
theorem qfb (i n : Nat) (h : i <= n) : sliceBounds (some (i : Int)) none none n = ((i : Int), (n : Int), 1) := by
 simp only [sliceBounds, Option.getD_none]
 have h1 : ¬ ((i : Int) < 0) := by exact o99
 simp only [h1, if_false, show (1 : Int) > 0 by decide, if_true]
 congr 1
 exact o152 h
section
section
variable {prog : Program} {w : World} {A : Around} {E : Value -> Shared -> Prop} {s : Shared} {K : Frag} {x C dx L f : Addr} {ox od : Obj} {h₀ : Heap} {m : Str -> Option Value} {news : List (Addr × Obj)} {es : List DictEntry} {n : Nat}
theorem q6a {name : Str} (hh : hasDictIn K C = true) (ha : findIn K (.ref C) name = some (some (.ref f))) (hg : specialIn K (.ref f) "__get__" = some (some (.builtin "function.__get__"))) (ht : takesIn K (.ref f) = some false) (hc : copiedNames.contains name = false) (hl : lookIn name od = some none) :
  findObj K C (some od) name = some (.bind (.builtin "function.__get__") (.ref f)) := by
 (refine E_ea (any_some hh) fun cd hcd hd => ?_)
 unfold findObj
 have ho : W.ownOf cd (some od) name = some none := by unfold W.ownOf; rw [if_pos hd]; exact hl
 rw [hcd, Option.bind_some, ha, Option.bind_some]
 have hc' : name ∉ copiedNames := by simpa using hc
 simp [hg, ht, ho, hc']
theorem qa7 {name : Str} {expr : Bool} {Q : Value -> Shared -> Prop} (Fh : Fr h₀ L s.heap m) (X₀ : K.In h₀) (N : News h₀ L s.heap news) (I : InstAt s.heap x ox C (some (dictOf es n))) (hm : mroIn K C (.type "list") = some true) (hga : findIn K (.ref C) "__getattribute__" = some (some (.builtin "list.__getattribute__"))) (hk : findIn K (.ref C) "__getattr__" = some none)
  (hh : hasDictIn K C = true) (ha : findIn K (.ref C) name = some (some (.ref f))) (hg : specialIn K (.ref f) "__get__" = some (some (.builtin "function.__get__"))) (ht : takesIn K (.ref f) = some false) (hc : copiedNames.contains name = false) (hl : getL name es = some none) (hty : typeIn K (.ref f) = some (.type "function"))
  (h : ∀ q h', Fr h₀ L h' m -> News h₀ L h' ((q, methodObj (.ref f) (.ref x)) :: news) -> (∀ p ∈ news, p.1 < q) -> Q (.ref q) { s with heap := h', toks := s.toks + 1 }) : wpAny (model prog w) A (getAttr (.ref x) name expr) Q E s := by
 have X : K.In s.heap := X₀.keeps Fh.keep
 have hf : findObj K C (some (dictOf es n)) name = some (.bind (.builtin "function.__get__") (.ref f)) := q6a hh ha hg ht hc (by rw [lookIn_dict, hl])
 (refine E_ea (by
  have ht' : (K.lookup f).map (·.cls) = some (.type "function") := hty
  cases z : K.lookup f with
  | none => rw [z] at ht'; cases ht'
  | some of => rw [z] at ht'; exact ⟨of, X _ _ z, Option.some.inj ht'⟩ : ∃ of, s.heap.get? f = some of /\ of.cls = .type "function") fun of hof hofc => ?_)
 obtain ⟨hp, g, d, t, os⟩ := s
 have L0 := I.type (M := model prog w)
 have L1 := looks_findIn (M := model prog w) X hga
 have L2 := looks_findIn (M := model prog w) X hk
 have L3 := looks_find (M := model prog w) X I hf
 have slot := PySem.F.slot_list_getattribute
 unfold getAttr getAttrBy
 refine wpAny_bind (wpAny_mkText (wpAny_holding (wpAny_bind (L0.at (wpAny_bind (L1.at ?_))))))
 show wpAny _ _ (getAttrByItsOwn _ _ _ _ _ _) _ _ _
 unfold getAttrByItsOwn
 refine wpAny_bind ?_
 show wpAny _ _ (typeLookup (.ref C) "__getattr__") _ _ _
 refine L2.at ?_
 refine wpAny_bind (wpAny_attempt (wpAny_holding ?_))
 unfold callGetattribute
 rw [show onTheHeap (.builtin "list.__getattribute__") = false from rfl, Bool.and_false]
 rw [if_neg (by decide)]
 unfold boundAndCalled
 refine wpAny_bind (wpAny_of_eq (slot.bind _) ?_)
 refine q29 slot.plain am_entry_list_getattribute (n := "__getattribute__") (by decide +kernel) (by decide +kernel) (q1h (s := ⟨hp, g, d, t + 1, os⟩) X I hm) (PySem.F.args_list_getattribute_2 _ _) ?_
 unfold Builtin.«object.__getattribute__»
 refine wpAny_bind (wpAny_pure (wpAny_bind (wpAny_pure (wpAny_bind (L0.at (wpAny_bind (L3.at ?_)))))))
 have hTf : (⟨hp, g, d, t + 1, os⟩ : Shared).TypeIs (.ref f) "function" := ⟨_, hof, hofc⟩
 show wpAny _ _ (holding [.ref f] (call (.builtin "function.__get__") [.ref f, .ref x, .ref C]) >>= fun v => ret v) _ _ _
 refine wpAny_bind (wpAny_holding ?_)
 refine wpAny_call_entry F.ks_slot_function_get hTf F.ks_entry_function_get ?_ (F.ks_getArgs_function _ _ _)
 show wpAny _ _ (newFields "method" [.ref f, .ref x] >>= fun v => ret v) _ _ _
 refine wpAny_bind (wpAny_newObj_type (wpAny_pure ⟨_, rfl, wpAny_pure ⟨_, rfl, ?_⟩⟩))
 (refine E_aa (ks_newsPush (s := ⟨hp, g, d, t, os⟩) (o := methodObj (.ref f) (.ref x)) Fh N rfl (Heap.get?_push_at rfl rfl) (fun b o e => Heap.get?_push_of_some _ e)) fun F' N' l' => ?_)
 show wpAny _ _ (handedOut (.ref hp.objs.size)) _ _ _
 rw [handedOut_of rfl]
 exact wpAny_pure (h _ _ F' N' l')
theorem q7i {M : Model} {env : Env} {o e : Expr} {name : Str} {apos p pos : Pos} {Q : Value -> Shared -> Prop}
  (h : wpAny M A (eval o env) (fun ov s₁ => wpAny M A (getAttr ov name true) (fun fx s₂ => wpAny M A (callWith pos fx [] (backTo pos (starEach [.Starred e p] env)) []) Q E s₂) E s₁) E s)
  (he : eval (.Call (.Attribute o name apos) [.Starred e p] [] pos) env = (do
   let ov <- eval o env
   standAt apos.atName
   let (f, first) <- holding [ov] (do pure (<- getAttr ov name true, []))
   callWith pos f first (backTo pos (starEach [.Starred e p] env)) [])) :
  wpAny M A (eval (.Call (.Attribute o name apos) [.Starred e p] [] pos) env) Q E s := by
 rw [he]
 refine wpAny_bind (wpAny_mono h (fun ov s₁ h₁ => wpAny_bind (wpAny_standAt (wpAny_bind (wpAny_holding (wpAny_bind (wpAny_mono h₁ (fun fx s₂ h₂ => wpAny_pure h₂) fun _ _ z => z)))))) fun _ _ z => z)
theorem q7b {pos : Pos} {q f2 : Addr} {self : Value} {first : List Value} {env : Env} {e : Expr} {p : Pos} {Q : Value -> Shared -> Prop} (N : News h₀ L s.heap news) (X : K.In s.heap) (hq : (q, methodObj (.ref f2) self) ∈ news) (hf : fnIn K f2 = true)
  (h : wpAny (model prog w) A (eval e env) (fun v s₁ => StarOf (model prog w) A E v (fun vs s₂ => MethP K q f2 self s₂.heap /\ wpAny (model prog w) A (call (.ref q) (first ++ vs)) Q E s₂) s₁) E s)
  (he : starEach [.Starred e p] env = [(true, eval e env)] := by rfl) :
  wpAny (model prog w) A (callWith pos (.ref q) first (backTo pos (starEach [.Starred e p] env)) []) Q E s := by
 rw [he]
 exact ks_call rfl (keeps_M hf) (ks_lone h)
end
end
example : True := by
 k_with_none
 k_with "omega" => (lia)
 k_with "k_all" => (exact q1q (by assumption))
 k_with "k_room" => (ktr_room)
 k_with "m ite" => ((k_here; k_dflt (first
 | refine ite_pos (by first | exact bne_iff_ne.mpr (by omega) | exact beq_self_eq_true _ | exact beq_iff_eq.mpr (by omega) | exact decide_eq_true (by omega)) ?_
 | refine ite_neg (by first | exact fun h => absurd (beq_iff_eq.mp h) (by omega) | exact fun h => absurd (of_decide_eq_true h) (by omega)) ?_)))
 k_with "m eval Name" => ((k_here; (with_reducible show wpAny _ _ (eval (Expr.Name _ _) (genEnv _ _ _ _ _ _)) _ _ _); k_dflt (first
 | (refine' ldVarG (by k_asm) (by with_reducible assumption) ?_ (by rfl) (by rfl) (by decide); k_whole)
 | (refine' qbu (by k_asm) (by k_asm) (by k_asm) (by k_is) ?_ (by rfl) (by rfl) (by rfl) (by decide); k_whole)
 | (refine' qa5 (by k_asm) (by k_asm) (by k_asm) (by k_is) (by boot_by_name) ?_ (by rfl) (by rfl) (by rfl) (by rfl) (by decide) (by decide); k_whole))))
 k_with "m call builtin:len" => ((k_here; (with_reducible show wpAny _ _ (call (Value.builtin _) [Value.str _ _]) _ _ _); k_dflt (refine len_str (by omega) ?_)))
 k_with "k_inst" => ((refine' q31 (by k_asm) (by k_mem) (by k_mem)))
 k_with "m getMethod ref" => ((k_here; k_dflt (refine' q2q (by k_in) (by k_inst) (by k_is) (by k_is) (by k_is) PySem.F.type_list_append (by rfl) ?_; k_whole)))
 k_with "m call builtin:list.append" => ((k_here; (with_reducible show wpAny _ _ (call (Value.builtin _) [Value.ref _, _]) _ _ _); k_dflt (refine' q25 (by k_in) (by k_inst) (by k_is) (by k_asm) (by k_asm) (by k_upd) (by omega) ?_; k_whole; intro h' F' N'; (try k_sweep))))
 k_with "k_inst" => (exact q1e (by with_reducible assumption) (Fr.keep (by k_asm)))
 k_with "m getAttr ref" => ((k_here; k_dflt (refine' attrL (by k_asm) (by k_asm) (by k_inst) (by k_is) (by k_is) (by k_is) (by k_is) (by k_is) (by k_is) (by k_get) (by k_handed) ?_; k_whole)))
 trivial
section
noncomputable def csum (cs : List (Str × Str)) : Int := (cs.map fun c => ((c.1.length : Nat) : Int) + ((c.2.length : Nat) : Int)).sum
noncomputable abbrev q0l (c : Str × Str) : Int := ((c.1.length : Nat) : Int) + ((c.2.length : Nat) : Int)
theorem q2x (cs : List (Str × Str)) : ∀ k, 0 <= ((cs.map q0l).take k).sum /\ ((cs.map q0l).take k).sum <= (cs.map q0l).sum := by
 induction cs with
 | nil => intro k; simp
 | cons c r ih =>
  intro k
  have h1 : 0 <= q0l c := by show (0 : Int) <= ((c.1.length : Nat) : Int) + ((c.2.length : Nat) : Int); exact Int.natCast_nonneg _
  match k with
  | 0 =>
   have h := ih r.length
   rw [List.take_of_length_le (by simp)] at h
   simp only [List.take_zero, List.sum_nil, List.map_cons, List.sum_cons]
   omega
  | k + 1 =>
   have h := ih k
   simp only [List.take_succ_cons, List.map_cons, List.sum_cons]
   omega
theorem q8c (cs : List (Str × Str)) (i : Nat) (hi : i < cs.length) : (cs.map q0l).getD i 0 = ((((cs.getD i ("", "")).1.length : Nat) : Int) + (((cs.getD i ("", "")).2.length : Nat) : Int)) := by
 rw [List.getD_eq_getElem?_getD, List.getD_eq_getElem?_getD, List.getElem?_map, List.getElem?_eq_getElem hi]
 rfl
theorem q7n (cs : List (Str × Str)) : ∀ i, i < cs.length -> ((((cs.getD i ("", "")).1.length : Nat) : Int) + (((cs.getD i ("", "")).2.length : Nat) : Int)) <= csum cs := by
 induction cs with
 | nil => intro i hi; simp at hi
 | cons c r ih =>
  intro i hi
  have h1 : 0 <= q0l c := by show (0 : Int) <= ((c.1.length : Nat) : Int) + ((c.2.length : Nat) : Int); exact Int.natCast_nonneg _
  have h2 := (q2x r r.length).1
  rw [List.take_of_length_le (by simp)] at h2
  match i, hi with
  | 0, _ =>
   show q0l c <= ((c :: r).map q0l).sum
   rw [List.map_cons, List.sum_cons]
   exact o402 h2
  | i + 1, hi =>
   have h := ih i (Nat.lt_of_succ_lt_succ hi)
   have e : csum (c :: r) = q0l c + csum r := by
    show ((c :: r).map q0l).sum = q0l c + (r.map q0l).sum
    rw [List.map_cons, List.sum_cons]
   rw [e]
   rw [List.getD_cons_succ]
   omega
theorem q7s {y : Int} (h : 0 <= y) (h2 : y < 1000000) : InLong y := ⟨by exact o341 h, by exact o349 h2⟩
section
variable {M : Model} {A : Around} {E : Value -> Shared -> Prop} {s : Shared} {env : Env} {h₀ : Heap} {L : Addr} {m mg mb : Str -> Option Value} {K : Frag} {p : Program} {loose : List Str} {mean : ExcName -> Option Value}
theorem qa5 {x : Str} {pos : Pos} {v : Value} {Q : Value -> Shared -> Prop} (F : Fr h₀ L s.heap m) (X : K.In h₀) (T : Top p loose mean mg mb h₀) (e : nsIn K mainGlobals x = some none) (hv : bootBuiltins x = some v) (h : Q v s)
  (hg : env.globals = mainGlobals) (hb : env.builtins = builtinsNs) (hk : env.scope.kind = .function) (hx : env.kindOf x = some .globalImplicit) (hn : x ≠ "__name__") (hd : (x == ("__debug__" : Str)) = false) :
  wpAny M A (eval (.Name x pos) env) Q E s :=
 Name_function_global hk hx (loadGlobal_builtin (env := env) (by rw [hg]; exact T.g.keeps F.keep) (mg_none_of X T.g e) (by rw [hb]; exact T.b.keeps F.keep) ((T.builtins x hn).trans hv) h) hd
theorem qbu {x : Str} {pos : Pos} {v : Value} {Q : Value -> Shared -> Prop} (F : Fr h₀ L s.heap m) (X : K.In h₀) (T : Top p loose mean mg mb h₀) (e : nsIn K mainGlobals x = some (some v)) (h : Q v s)
  (hg : env.globals = mainGlobals) (hk : env.scope.kind = .function) (hx : env.kindOf x = some .globalImplicit) (hd : (x == ("__debug__" : Str)) = false) :
  wpAny M A (eval (.Name x pos) env) Q E s :=
 Name_function_global hk hx (loadGlobal_global (env := env) (by rw [hg]; exact T.g.keeps F.keep) (mg_of X T.g e) h) hd
end
noncomputable abbrev q8e : Pos := { line := 185, col := 19, endLine := 185, endCol := 63 }
theorem qem {w : World} {p : Program} {loose : List Str} {mean : ExcName -> Option Value} {mg mb : Str -> Option Value}
 {dp un : Nat} {gd : Option (List Code)} {cn : Str} {cs : Scope} {a : Addr} {ccd : Value} {cl : List (Str × Addr)} {outer : List Env} {A₀ : Around} {base h₀ : Heap} {L : Addr} {m : Str -> Option Value} {s : Shared}
 {Q E : Value -> Shared -> Prop} {a1 dx : Addr} {its : List Value} {ep nd : Nat} {hs1 : Int} {sz : Int} {ts tz : Tok} {ps : Array Value} {chs : List (Str × Str)} {att news : List (Addr × Obj)} {gN : Obj -> List (Addr × Obj)}
 (B : Below A₀ base outer h₀) (F : Fr h₀ L s.heap m) (X : (Mine.hd.heap_1 w.params).In h₀) (N : News h₀ L s.heap news) (U : UpdF 211 (tabObj ps) news gN) (T : Top p loose mean mg mb h₀) (hk : cs.kind = .function)
 (h1 : s.heap.get? a1 = some (accO its ep dx)) (h2 : s.heap.get? dx = some (dictOf [⟨hs1, .str q0o ts, .int sz tz⟩] nd)) (hta : ∀ p ∈ att, s.heap.get? p.1 = some p.2) (htc : ∀ p ∈ att, p.2.cls = .type "tuple")
 (hlen : its.length < 100000) (hC : Chunks att its chs) (hG : AllBare s.gens) (hT : TabG q8e ps) (hsz : 0 <= sz /\ sz + csum chs < 1000000)
 (hd : dp + 20 < recursionLimit) (hu : un + 200 < cLine)
 (ret : ∀ s' t' ps', Fr h₀ L s'.heap m -> News h₀ L s'.heap (gN (tabObj ps')) -> TabG q8e ps' -> AllBare s'.gens -> s'.os = s.os -> Q (.int (sz + csum chs) t') s') :
 wpAny (model Challenge.rw_un0030_01.row.prog w) (ktrTop dp un gd cn cs L a ccd cl outer) (call (.ref 216) [.ref a1]) Q E s := by
 revert X
 k_fill
 intro X
 (refine q2n (hC.fns) fun Ts tka tkb hfn => ?_)
 (refine q10 (U.split) fun pre post z1z hgN ua ub => ?_; subst z1z)
 have N0 : News h₀ L s.heap [(211, tabObj ps)] := fun q hq => N q (by rw [List.mem_singleton.mp hq]; exact List.mem_append_right _ (.head _))
 have NR0 : News h₀ L s.heap (pre ++ post) := fun q hq => N q (by
  rcases List.mem_append.mp hq with e | e
  ·exact List.mem_append_left _ e
  ·exact List.mem_append_right _ (.tail _ e))
 have hs0 : ∀ p ∈ pre ++ post, ∀ q ∈ [((211 : Addr), tabObj ps)], p.1 ≠ q.1 := by
  intro p hp q hq
  rw [List.mem_singleton.mp hq]
  rcases List.mem_append.mp hp with e | e
  ·exact ua p e
  ·exact ub p e
 have tabH := (N0 _ (.head _)).1
 have hat0 : ∀ p ∈ (a1, accO its ep dx) :: (dx, dictOf [⟨hs1, .str q0o ts, .int sz tz⟩] nd) :: att, s.heap.get? p.1 = some p.2 := by
  intro p hp
  rcases List.mem_cons.mp hp with e | hp
  ·rw [e]; exact h1
  rcases List.mem_cons.mp hp with e | hp
  ·rw [e]; exact h2
  ·exact hta p hp
 have hsa0 : ∀ p ∈ (a1, accO its ep dx) :: (dx, dictOf [⟨hs1, .str q0o ts, .int sz tz⟩] nd) :: att, ∀ q ∈ [((211 : Addr), tabObj ps)], p.1 ≠ q.1 := by
  intro p hp q hq e
  rw [List.mem_singleton.mp hq] at e
  have e2 := hat0 p hp
  rw [e] at e2
  have e3 : tabObj ps = p.2 := Option.some.inj (tabH.symm.trans e2)
  rcases List.mem_cons.mp hp with e4 | hp
  ·rw [e4] at e3; cases e3
  rcases List.mem_cons.mp hp with e4 | hp
  ·rw [e4] at e3; cases e3
  ·have e5 := htc p hp
   rw [<- e3] at e5
   cases e5
 refine wpAny_call ?_
 k_dflt ((refine' q6j (by k_asm) (by k_asm) (by k_asm) N0 NR0 hs0 hat0 hsa0 (by k_asm) (by exact rfl) (by exact rfl) (by first | exact rfl | assumption) (by k_is) (by k_is) (by k_room) (by first | exact BindsTo.of_eq rfl | exact binds_K (by k_in) rfl (by k_is) rfl rfl rfl | fail "no rule for these arguments") (by exact locs rfl) ?_ (by exact rfl) (by exact rfl) (by exact rfl) (by decide); k_whole; intro g' L' h' FG' F' N' B' X' T' l1 hr1; (try k_lt l1); (try (have l2 := allLt_up l1; have l3 := allLt_up l2; have l4 := allLt_up l3)); (try dsimp only); (try k_lift B'); (try k_fold)))
 have hI : InstAt g' a1 (accO its ep dx) 249 (some (dictOf [⟨hs1, .str q0o ts, .int sz tz⟩] nd)) := ⟨hr1 _ (.head _), rfl, rfl, hr1 _ (.tail _ (.head _))⟩
 repeat ((fail_if_success (k_here; with_reducible show wpAny _ _ (eval (PySem.Expr.GeneratorExp _ _ _ _) _) _ _ _)); (first | (k_unfold; (try dsimp only)) | walk1 | (dsimp only; walk1)))
 k_here
 rename Fr _ _ _ _ => F9
 rename News _ _ _ _ => N9
 have M9 := bmod_of_top T'
 obtain ⟨bm, ob, M9⟩ := M9
 have N10 : News g' L' _ ((211, tabObj ps) :: []) := N9
 have hg211 : g'.get? 211 = none := (N10 _ (.head _)).2.2
 k_dflt (refine q4e (K := Mine.hd.heap_1 w.params) (x := a1) (C := 249) (c := 215) (cl := []) (Ts := Ts) (va := fun i => .str (chs.getD i ("", "")).1 (tka i)) (vb := fun i => .str (chs.getD i ("", "")).2 (tkb i)) (items := its.toArray) (ep := ep) (ps := ps) (mg := mg) (bm := bm) (ob := ob) (od := dictOf [⟨hs1, .str q0o ts, .int sz tz⟩] nd) (ox := accO its ep dx) (F := fun i y => ∃ t, y = .int ((((chs.getD i ("", "")).1.length : Nat) : Int) + (((chs.getD i ("", "")).2.length : Nat) : Int)) t) F9 N10 ?hoff (X'.keeps F9.keep) ?hI ?hm ?hf rfl ?hit ?htup (M9.keeps F9.keep) ?hMP (T'.nolimit.keeps F9.keep) ?hGn ?hCd rfl hT rfl rfl rfl ?hcell rfl rfl rfl ?hab rfl ?hroom ?hiter ?hs9 ?helt ?hret)
 case hoff => intro q hq; cases hq
 case hI => exact q1e hI F9.keep
 case hm => k_is
 case hf => k_is
 case hit => intro j hj; exact (hfn j (by simpa using hj)).1
 case htup =>
  intro k hk'
  exact ⟨_, F9.keep _ _ (hr1 _ (.tail _ (.tail _ (hfn k (by simpa using hk')).2))), rfl, _, rfl⟩
 case hMP => exact ⟨by show @Ne Nat mainGlobals 211; decide, fun e => by have := M9.obj; rw [e, hg211] at this; cases this⟩
 case hGn => exact hG
 case hCd => exact codeHd_of_K (X'.keeps F9.keep) (qfj _)
 case hcell => decide
 case hab => decide
 case hroom => k_room
 case hiter =>
  walk1
  exact ⟨rfl, rfl⟩
 case hs9 => intro x9; rfl
 case helt =>
  intro C' code A' E' i s₂ m₂ hA hi hns hma hmb hC9 hkp
  have F8 : Fr g' C' s₂.heap m₂ :=
   ⟨hns, fun b o e => hkp b o (fun e' => by rw [e', hg211] at e; cases e) (F9.keep b o e), Nat.le_trans F9.above (Nat.le_trans (Nat.le_of_lt F9.ns.lt) hC9)⟩
  have b9 := q7n chs i (by rw [<- hC.length]; simpa using hi)
  have N8 : News g' C' s₂.heap [] := fun q hq => by cases hq
  repeat (first | (k_unfold; (try dsimp only)) | walk1 | (dsimp only; walk1))
  all_goals first | exact ⟨_, _, rfl, fun _ _ e => e⟩ | exact ⟨_, rfl⟩
 case hret =>
  intro a s₅ ps' Kb F5 N5 hT5 hG5 hos hdr hkb hPk hLk hKs hgen
  clear F9 N9 N10
  repeat ((fail_if_success (k_here; with_reducible show wpAny _ _ (call (Value.builtin "sum") _) _ _ _)); (first | (k_unfold; (try dsimp only)) | walk1 | (dsimp only; walk1)))
  k_here
  (refine q48 hgen fun fp wr g9 St W hst _ _ hfp hwr => ?_; (try clear hgen))
  have W1 := W.in4_1
  have hst2 := W1.frame 0 s₅ s₅.heap (s₅.toks + 1) hst (Nat.le_succ _) (fun _ _ _ e => e)
  have hcl := hC.length
  have hpre : ∀ k, preSum (fun j => (chs.map q0l).getD j 0) k = ((chs.map q0l).take k).sum := preSum_getD _
  have hall : preSum (fun j => (chs.map q0l).getD j 0) its.toArray.size = csum chs := by
   rw [hpre, List.take_of_length_le (by simp [hcl])]
   rfl
  refine qa2 (q7s hsz.1 (by have := (q2x chs chs.length); rw [List.take_of_length_le (by simp)] at this; have h2 : csum chs = (chs.map q0l).sum := rfl; omega)) (W1.self 0 _ _ _ hst2 ⟨a, fp, wr, _, its.toArray.size, _, St, (fun j => (chs.map q0l).getD j 0), rfl, W1, hst2, hfp, ?hval, ?hfit, fun s' t' hm => ?fin⟩)
  case hval =>
   (intro j; intro v; intro z1y; refine qgp z1y fun i hji t z2z => ?_; (try clear z1y); subst z2z)
   have hj : j < its.length := by
    have := (List.getElem?_eq_some_iff.mp hji).1
    simpa using this
   have hij : j = i := by
    have h := List.getElem?_eq_some_iff.mp hji
    (refine E_e h fun h1 h2 => ?_; (try clear h))
    rw [List.getElem_range] at h2
    exact h2
   subst hij
   refine ⟨t, ?_⟩
   show _ = Value.int ((chs.map q0l).getD j 0) t
   rw [q8c chs j (hcl ▸ hj)]
  case hfit =>
   intro j hj
   have hj' : j < chs.length := by rw [<- hcl]; simpa using hj
   have h1 := q7n chs j hj'
   have h2 := q2x chs (j + 1)
   have h3 : csum chs = (chs.map q0l).sum := rfl
   have h5 : 0 <= ((((chs.getD j ("", "")).1.length : Nat) : Int) + (((chs.getD j ("", "")).2.length : Nat) : Int)) := by exact Int.natCast_nonneg _
   refine ⟨?_, ?_⟩
   ·show InLong ((chs.map q0l).getD j 0)
    rw [q8c chs j hj']
    exact q7s h5 (by exact o288 hsz h1)
   ·rw [hpre]
    exact q7s (by exact o423 hsz h2) (by exact o422 hsz h2 h3)
  rw [hall]
  have F5' : Fr g' L' ({ s₅ with toks := s₅.toks + 1 } : Shared).heap _ := F5
  have F6 := F5'.moved hm (fun b hb => Nat.lt_of_le_of_lt hLk (hwr b hb))
  have N6 : News g' L' s'.heap ((211, tabObj ps') :: []) := fun q hq => by
   have hle : q.1 <= Kb := by
    rcases List.mem_cons.mp hq with e | hq
    ·rw [e]; exact hPk
    ·exact hkb q hq
   exact ⟨hm.heap _ _ (fun hb => Nat.lt_irrefl _ (Nat.lt_of_lt_of_le (hwr _ hb) hle)) (N5 q hq).1, (N5 q hq).2⟩
  have G6 := AllBare.movedS (s := { s₅ with toks := s₅.toks + 1 }) hG5 hm
  clear F5' F5 N5
  repeat (first | (k_unfold; (try dsimp only)) | walk1 | (dsimp only; walk1))
  rename News h₀ L _ (_ ++ _) => NR
  rename News h₀ L _ (_ :: _) => NO
  refine ret s' t' ps' (by k_asm) ?_ hT5 (by first | exact G6 | assumption) (hm.os.trans hos)
  rw [hgN]
  intro q hq
  rcases List.mem_append.mp hq with e | e
  ·exact NR q (List.mem_append_left _ e)
  rcases List.mem_cons.mp e with e | e
  ·exact NO q (by rw [e]; exact .head _)
  ·exact NR q (List.mem_append_right _ e)
end
example : True := by
 k_with_none
 k_with "omega" => (first | assumption | exact Nat.le_refl _ | exact Nat.ne_of_lt (by assumption) | exact Nat.ne_of_gt (by assumption) | exact Nat.le_of_lt (by assumption) | lia)
 k_with "k_all" => (exact q1q (by assumption))
 k_with "k_room" => (ktr_room)
 k_with "m ite" => ((k_here; k_dflt (first
 | refine ite_pos (by first | exact bne_iff_ne.mpr (by omega) | exact beq_self_eq_true _ | exact beq_iff_eq.mpr (by omega) | exact decide_eq_true (by omega)) ?_
 | refine ite_neg (by first | exact fun h => absurd (beq_iff_eq.mp h) (by omega) | exact fun h => absurd (of_decide_eq_true h) (by omega)) ?_)))
 k_with "k_inst" => ((refine' q31 (by k_asm) (by k_mem) (by k_mem)))
 k_with "m getMethod ref" => ((k_here; k_dflt (refine' q2q (by k_in) (by k_inst) (by k_is) (by k_is) (by k_is) PySem.F.type_list_append (by rfl) ?_; k_whole)))
 k_with "m call builtin:list.append" => ((k_here; (with_reducible show wpAny _ _ (call (Value.builtin _) [Value.ref _, _]) _ _ _); k_dflt (refine' q25 (by k_in) (by k_inst) (by k_is) (by k_asm) (by k_asm) (by k_upd) (by omega) ?_; k_whole; intro h' F' N'; (try k_sweep))))
 k_with "k_inst" => (exact q1e (by with_reducible assumption) (Fr.keep (by k_asm)))
 k_with "m eval Name" => ((k_here; (with_reducible show wpAny _ _ (eval (Expr.Name _ _) (genEnv _ _ _ _ _ _)) _ _ _); k_dflt (first
 | (refine' ldVarG (by k_asm) (by with_reducible assumption) ?_ (by rfl) (by rfl) (by decide); k_whole)
 | (refine' qbu (by k_asm) (by k_asm) (by k_asm) (by k_is) ?_ (by rfl) (by rfl) (by rfl) (by decide); k_whole)
 | (refine' qa5 (by k_asm) (by k_asm) (by k_asm) (by k_is) (by boot_by_name) ?_ (by rfl) (by rfl) (by rfl) (by rfl) (by decide) (by decide); k_whole))))
 k_with "m getAttr ref" => ((k_here; k_dflt (refine' attrL (by k_asm) (by k_asm) (by k_inst) (by k_is) (by k_is) (by k_is) (by k_is) (by k_is) (by k_is) (by k_get) (by k_handed) ?_; k_whole)))
 trivial
noncomputable abbrev cat1 (c : Str × Str) : Str := c.1 ++ c.2
theorem qe9 : (Str.ofString "") = ⟨#[]⟩ := by decide
theorem q76 (f p : Str) : (f ++ p).cps = f.cps ++ p.cps := rfl
theorem q69 : ∀ l : List Str, (Txt.join "" l).cps.toList = l.flatMap (·.cps.toList)
 | [] => rfl
 | [y] => by
  show (Builtin.Str.glued _ _).cps.toList = _
  rw [StrLaws.glued_eq_join]
  show y.cps.toList = _
  simp
 | y :: z :: r => by
  have h := q69 (z :: r)
  unfold Txt.join at h ⊢
  rw [StrLaws.glued_eq_join] at h ⊢
  show (y ++ Str.ofString "" ++ Str.join (Str.ofString "") (z :: r)).cps.toList = _
  rw [q76, q76, Array.toList_append, Array.toList_append, h, qe9]
  simp
theorem qb8 {x y : Str} (h : x.cps.toList = y.cps.toList) : x = y := by
 cases x; cases y
 congr 1
 exact Array.toList_inj.mp h
theorem qh8 (f p : Str) : Txt.join "" [f, p] = f ++ p := by
 apply qb8
 rw [q69, q76, Array.toList_append]
 simp
theorem q4t (cs : List (Str × Str)) : (List.range cs.length).map (fun j => cat1 (cs.getD j ("", ""))) = cs.map cat1 := by
 apply List.ext_getElem
 ·simp
 ·intro i h1 h2
  have hi : i < cs.length := by simpa using h1
  simp [hi]
theorem qex (cs : List (Str × Str)) : (((((cs.map cat1).map (·.length)).sum : Nat)) : Int) = csum cs := by
 induction cs with
 | nil => rfl
 | cons c r ih =>
  have e : csum (c :: r) = q0l c + csum r := by
   show ((c :: r).map q0l).sum = q0l c + (r.map q0l).sum
   rw [List.map_cons, List.sum_cons]
  rw [e, <- ih]
  have e2 : (cat1 c).length = c.1.length + c.2.length := Str.length_append ..
  simp only [List.map_cons, List.sum_cons, e2]
  show _ = ((c.1.length : Nat) : Int) + ((c.2.length : Nat) : Int) + _
  exact rfl
noncomputable abbrev q8w : Pos := { line := 188, col := 32, endLine := 188, endCol := 84 }
noncomputable abbrev q0m (cs : List (Str × Str)) : Str := Txt.join "" (cs.map cat1)
theorem qf2 {w : World} {p : Program} {loose : List Str} {mean : ExcName -> Option Value} {mg mb : Str -> Option Value}
 {dp un : Nat} {gd : Option (List Code)} {cn : Str} {cs : Scope} {a : Addr} {ccd : Value} {cl : List (Str × Addr)} {outer : List Env} {A₀ : Around} {base h₀ : Heap} {L : Addr} {m : Str -> Option Value} {s : Shared}
 {Q E : Value -> Shared -> Prop} {a1 dx : Addr} {its : List Value} {ep nd : Nat} {hs1 : Int} {sz : Int} {ts tz : Tok} {ps : Array Value} {chs : List (Str × Str)} {att news : List (Addr × Obj)} {gN : Obj -> List (Addr × Obj)}
 (B : Below A₀ base outer h₀) (F : Fr h₀ L s.heap m) (X : (Mine.hd.heap_1 w.params).In h₀) (N : News h₀ L s.heap news) (U : UpdF 218 (tabObj ps) news gN) (T : Top p loose mean mg mb h₀) (hk : cs.kind = .function)
 (h1 : s.heap.get? a1 = some (accO its ep dx)) (h2 : s.heap.get? dx = some (dictOf [⟨hs1, .str q0o ts, .int sz tz⟩] nd)) (hta : ∀ p ∈ att, s.heap.get? p.1 = some p.2) (htc : ∀ p ∈ att, p.2.cls = .type "tuple")
 (hlen : its.length < 100000) (hC : Chunks att its chs) (hG : AllBare s.gens) (hT : TabG q8w ps) (hsz : csum chs < 1000000)
 (hd : dp + 20 < recursionLimit) (hu : un + 200 < cLine)
 (ret : ∀ s' t' ps', Fr h₀ L s'.heap m -> News h₀ L s'.heap (gN (tabObj ps')) -> TabG q8w ps' -> AllBare s'.gens -> s'.os = s.os -> Q (.str (q0m chs) t') s') :
 wpAny (model Challenge.rw_un0030_01.row.prog w) (ktrTop dp un gd cn cs L a ccd cl outer) (call (.ref 223) [.ref a1]) Q E s := by
 revert X
 k_fill
 intro X
 (refine q2n (hC.fns) fun Ts tka tkb hfn => ?_)
 (refine q10 (U.split) fun pre post z1z hgN ua ub => ?_; subst z1z)
 have N0 : News h₀ L s.heap [(218, tabObj ps)] := fun q hq => N q (by rw [List.mem_singleton.mp hq]; exact List.mem_append_right _ (.head _))
 have NR0 : News h₀ L s.heap (pre ++ post) := fun q hq => N q (by
  rcases List.mem_append.mp hq with e | e
  ·exact List.mem_append_left _ e
  ·exact List.mem_append_right _ (.tail _ e))
 have hs0 : ∀ p ∈ pre ++ post, ∀ q ∈ [((218 : Addr), tabObj ps)], p.1 ≠ q.1 := by
  intro p hp q hq
  rw [List.mem_singleton.mp hq]
  rcases List.mem_append.mp hp with e | e
  ·exact ua p e
  ·exact ub p e
 have tabH := (N0 _ (.head _)).1
 have hat0 : ∀ p ∈ (a1, accO its ep dx) :: (dx, dictOf [⟨hs1, .str q0o ts, .int sz tz⟩] nd) :: att, s.heap.get? p.1 = some p.2 := by
  intro p hp
  rcases List.mem_cons.mp hp with e | hp
  ·rw [e]; exact h1
  rcases List.mem_cons.mp hp with e | hp
  ·rw [e]; exact h2
  ·exact hta p hp
 have hsa0 : ∀ p ∈ (a1, accO its ep dx) :: (dx, dictOf [⟨hs1, .str q0o ts, .int sz tz⟩] nd) :: att, ∀ q ∈ [((218 : Addr), tabObj ps)], p.1 ≠ q.1 := by
  intro p hp q hq e
  rw [List.mem_singleton.mp hq] at e
  have e2 := hat0 p hp
  rw [e] at e2
  have e3 : tabObj ps = p.2 := Option.some.inj (tabH.symm.trans e2)
  rcases List.mem_cons.mp hp with e4 | hp
  ·rw [e4] at e3; cases e3
  rcases List.mem_cons.mp hp with e4 | hp
  ·rw [e4] at e3; cases e3
  ·have e5 := htc p hp
   rw [<- e3] at e5
   cases e5
 refine wpAny_call ?_
 k_dflt ((refine' q6j (by k_asm) (by k_asm) (by k_asm) N0 NR0 hs0 hat0 hsa0 (by k_asm) (by exact rfl) (by exact rfl) (by first | exact rfl | assumption) (by k_is) (by k_is) (by k_room) (by first | exact BindsTo.of_eq rfl | exact binds_K (by k_in) rfl (by k_is) rfl rfl rfl | fail "no rule for these arguments") (by exact locs rfl) ?_ (by exact rfl) (by exact rfl) (by exact rfl) (by decide); k_whole; intro g' L' h' FG' F' N' B' X' T' l1 hr1; (try k_lt l1); (try (have l2 := allLt_up l1; have l3 := allLt_up l2; have l4 := allLt_up l3)); (try dsimp only); (try k_lift B'); (try k_fold)))
 have hI : InstAt g' a1 (accO its ep dx) 249 (some (dictOf [⟨hs1, .str q0o ts, .int sz tz⟩] nd)) := ⟨hr1 _ (.head _), rfl, rfl, hr1 _ (.tail _ (.head _))⟩
 repeat ((fail_if_success (k_here; with_reducible show wpAny _ _ (eval (PySem.Expr.GeneratorExp _ _ _ _) _) _ _ _)); (first | (k_unfold; (try dsimp only)) | walk1 | (dsimp only; walk1)))
 k_here
 rename Fr _ _ _ _ => F9
 rename News _ _ _ _ => N9
 have M9 := bmod_of_top T'
 obtain ⟨bm, ob, M9⟩ := M9
 have N10 : News g' L' _ ((218, tabObj ps) :: []) := N9
 have hg218 : g'.get? 218 = none := (N10 _ (.head _)).2.2
 k_dflt (refine q4e (K := Mine.hd.heap_1 w.params) (x := a1) (C := 249) (c := 222) (cl := []) (Ts := Ts) (va := fun i => .str (chs.getD i ("", "")).1 (tka i)) (vb := fun i => .str (chs.getD i ("", "")).2 (tkb i)) (items := its.toArray) (ep := ep) (ps := ps) (mg := mg) (bm := bm) (ob := ob) (od := dictOf [⟨hs1, .str q0o ts, .int sz tz⟩] nd) (ox := accO its ep dx) (F := fun i y => ∃ t, y = .str (cat1 (chs.getD i ("", ""))) t) F9 N10 ?hoff (X'.keeps F9.keep) ?hI ?hm ?hf rfl ?hit ?htup (M9.keeps F9.keep) ?hMP (T'.nolimit.keeps F9.keep) ?hGn ?hCd rfl hT rfl rfl rfl ?hcell rfl rfl rfl ?hab rfl ?hroom ?hiter ?hs9 ?helt ?hret)
 case hoff => intro q hq; cases hq
 case hI => exact q1e hI F9.keep
 case hm => k_is
 case hf => k_is
 case hit => intro j hj; exact (hfn j (by simpa using hj)).1
 case htup =>
  intro k hk'
  exact ⟨_, F9.keep _ _ (hr1 _ (.tail _ (.tail _ (hfn k (by simpa using hk')).2))), rfl, _, rfl⟩
 case hMP => exact ⟨by show @Ne Nat mainGlobals 218; decide, fun e => by have := M9.obj; rw [e, hg218] at this; cases this⟩
 case hGn => exact hG
 case hCd => exact codeHd_of_K (X'.keeps F9.keep) (qee _)
 case hcell => decide
 case hab => decide
 case hroom => k_room
 case hiter =>
  walk1
  exact ⟨rfl, rfl⟩
 case hs9 => intro x9; rfl
 case helt =>
  intro C' code A' E' i s₂ m₂ hA hi hns hma hmb hC9 hkp
  have F8 : Fr g' C' s₂.heap m₂ :=
   ⟨hns, fun b o e => hkp b o (fun e' => by rw [e', hg218] at e; cases e) (F9.keep b o e), Nat.le_trans F9.above (Nat.le_trans (Nat.le_of_lt F9.ns.lt) hC9)⟩
  have b9 := q7n chs i (by rw [<- hC.length]; simpa using hi)
  have N8 : News g' C' s₂.heap [] := fun q hq => by cases hq
  repeat ((fail_if_success (k_here; with_reducible show wpAny _ _ (newTuple _) _ _ _)); (first | (k_unfold; (try dsimp only)) | walk1 | (dsimp only; walk1)))
  k_here
  refine wpAny_newTuple ?_
  have F7 := F8.push { cls := .type "tuple", data := .seq [Value.str (chs.getD i ("", "")).1 (tka i), Value.str (chs.getD i ("", "")).2 (tkb i)].toArray }
  repeat ((fail_if_success (k_here; with_reducible show wpAny _ _ (call (Value.builtin "str.join") _) _ _ _)); (first | (k_unfold; (try dsimp only)) | walk1 | (dsimp only; walk1)))
  k_here
  refine join_tuple ⟨_, Heap.get?_push_size _ rfl, rfl, _, rfl⟩ (.cons _ _ (.cons _ _ .nil)) (show ((chs.getD i ("", "")).1.length + ((chs.getD i ("", "")).2.length + 0)) + 2 * 0 <= 16777216 by exact o285 hsz b9) fun t' k => ?_
  rw [qh8]
  exact ⟨⟨t', rfl⟩, ⟨_, _, rfl, fun b o e => Heap.get?_push_of_some _ e⟩⟩
 case hret =>
  intro a s₅ ps' Kb F5 N5 hT5 hG5 hos hdr hkb hPk hLk hKs hgen
  clear F9 N9 N10
  repeat ((fail_if_success (k_here; with_reducible show wpAny _ _ (call (Value.builtin "str.join") _) _ _ _)); (first | (k_unfold; (try dsimp only)) | walk1 | (dsimp only; walk1)))
  k_here
  have hcl := hC.length
  have hsz9 : its.toArray.size = chs.length := by simp [hcl]
  have hmr := q4t chs
  refine join_rowsK (K := Kb) F5 hG5 hgen hLk (fun j => cat1 (chs.getD j ("", ""))) ?htx ?hok (fun s' t' F6 G6 hos6 hk6 => ?fin) ?hszz
  case htx =>
   (intro j; intro v; intro z1y; refine qgp z1y fun i hji t z2z => ?_; (try clear z1y); subst z2z)
   have hij : j = i := by
    have h := List.getElem?_eq_some_iff.mp hji
    (refine E_e h fun h1 h2 => ?_; (try clear h))
    rw [List.getElem_range] at h2
    exact h2
   subst hij
   exact ⟨t, rfl⟩
  case hok =>
   rw [hsz9, hmr]
   apply joinOk_of
   have := qex chs
   show _ + _ * 0 <= _
   exact o286 hsz this
  case hszz => rw [hsz9, <- hcl]; exact Nat.le_trans (Nat.le_of_lt hlen) (by decide)
  rw [hsz9, hmr]
  have N6 : News g' L' s'.heap ((218, tabObj ps') :: []) := fun q hq => by
   have hle : q.1 <= Kb := by
    rcases List.mem_cons.mp hq with e | hq
    ·rw [e]; exact hPk
    ·exact hkb q hq
   exact ⟨hk6 _ _ hle (N5 q hq).1, (N5 q hq).2⟩
  clear F5 N5
  repeat (first | (k_unfold; (try dsimp only)) | walk1 | (dsimp only; walk1))
  rename News h₀ L _ (_ ++ _) => NR
  rename News h₀ L _ (_ :: _) => NO
  refine ret s' t' ps' (by k_asm) ?_ hT5 (by first | exact G6 | assumption) (hos6.trans hos)
  rw [hgN]
  intro q hq
  rcases List.mem_append.mp hq with e | e
  ·exact NR q (List.mem_append_left _ e)
  rcases List.mem_cons.mp e with e | e
  ·exact NO q (by rw [e]; exact .head _)
  ·exact NR q (List.mem_append_right _ e)
example : True := by
 k_with_none
 trivial
theorem q49 {d : Addr} {o : Obj} {l : List (Addr × Obj)} {g : Obj -> List (Addr × Obj)} (U : UpdF d o l g) : (d, o) ∈ l := by
 (refine q10 (U.split) fun pre post z1z _ _ _ => ?_; subst z1z)
 exact List.mem_append_right _ (.head _)
noncomputable def restOf (a b : Addr) (l : List (Addr × Obj)) : List (Addr × Obj) := l.filter fun p => !(Nat.beq p.1 a) && !(Nat.beq p.1 b)
theorem restOf_mem {a b : Addr} {l : List (Addr × Obj)} {p : Addr × Obj} : p ∈ restOf a b l ↔ p ∈ l /\ p.1 ≠ a /\ p.1 ≠ b := by
 unfold restOf
 rw [List.mem_filter]
 constructor
 ·(intro z1y; refine E_a z1y fun h h2 => ?_; (try clear z1y))
  simp only [Bool.and_eq_true, Bool.not_eq_true'] at h2
  exact ⟨h, fun e => by rw [e] at h2; simp at h2, fun e => by rw [e] at h2; simp at h2⟩
 ·(intro z1y; refine E_aa z1y fun h h2 h3 => ?_; (try clear z1y))
  refine ⟨h, ?_⟩
  simp only [Bool.and_eq_true, Bool.not_eq_true']
  exact ⟨by cases e : Nat.beq p.1 a with
   | true => exact absurd (Nat.eq_of_beq_eq_true e) h2
   | false => rfl, by cases e : Nat.beq p.1 b with
   | true => exact absurd (Nat.eq_of_beq_eq_true e) h3
   | false => rfl⟩
theorem q50 {a b : Addr} {l : List (Addr × Obj)} : ∀ p ∈ restOf a b l, p ∈ l := fun _ h => (restOf_mem.mp h).1
theorem q5a {a b : Addr} {oa ob : Obj} {l : List (Addr × Obj)} : ∀ p ∈ restOf a b l, ∀ q ∈ [(a, oa), (b, ob)], p.1 ≠ q.1 := by
 intro p hp q hq
 have h := restOf_mem.mp hp
 rcases List.mem_cons.mp hq with e | e
 ·rw [e]; exact h.2.1
 ·rw [List.mem_singleton.mp e]; exact h.2.2
theorem qci {h₀ h : Heap} {L a : Addr} {o o' : Obj} {l : List (Addr × Obj)} (N : News h₀ L h l) (h1 : (a, o) ∈ l) (h2 : (a, o') ∈ l) : o = o' :=
 Option.some.inj ((N _ h1).1.symm.trans (N _ h2).1)
theorem qgi {h₀ h h' : Heap} {L a b : Addr} {oa oa' ob : Obj} {l : List (Addr × Obj)} {g : Obj -> List (Addr × Obj)} (N : News h₀ L h l) (U : UpdF a oa l g) (hb : (b, ob) ∈ l) (N' : News h₀ L h' ((a, oa') :: (b, ob) :: restOf a b l)) : News h₀ L h' (g oa') := by
 (refine q10 (U.split) fun pre post z1z hg u1 u2 => ?_; subst z1z)
 rw [hg]
 have go : ∀ p, p ∈ pre ++ (a, oa) :: post -> p.1 ≠ a -> h'.get? p.1 = some p.2 /\ p.1 ≠ L /\ h₀.get? p.1 = none := by
  intro p hp hpa
  by_cases e : p.1 = b
  ·have e2 : p = (b, ob) := Prod.ext e (qci N (show (b, p.2) ∈ _ from e ▸ hp) hb)
   rw [e2]; exact N' _ (.tail _ (.head _))
  ·exact N' _ (.tail _ (.tail _ (restOf_mem.mpr ⟨hp, hpa, e⟩)))
 intro p hp
 rcases List.mem_append.mp hp with e | e
 ·exact go p (List.mem_append_left _ e) (u1 p e)
 rcases List.mem_cons.mp e with e | e
 ·rw [e]; exact N' _ (.head _)
 ·exact go p (List.mem_append_right _ (.tail _ e)) (u2 p e)
theorem q0n {h₀ h : Heap} {L : Addr} {p : Addr × Obj} {l : List (Addr × Obj)} (a : h.get? p.1 = some p.2 /\ p.1 ≠ L /\ h₀.get? p.1 = none) (N : News h₀ L h l) : News h₀ L h (p :: l) := by
 intro q hq
 rcases List.mem_cons.mp hq with e | e
 ·rw [e]; exact a
 ·exact N q e
theorem qgs {w : World} {p : Program} {loose : List Str} {mean : ExcName -> Option Value} {mg mb : Str -> Option Value}
 {dp un : Nat} {gd : Option (List Code)} {cn : Str} {cs : Scope} {a : Addr} {ccd : Value} {cl : List (Str × Addr)} {outer : List Env} {A₀ : Around} {base h₀ : Heap} {L : Addr} {m : Str -> Option Value} {s : Shared}
 {Q E : Value -> Shared -> Prop} {a1 dx : Addr} {ep : Nat} {hs1 : Int} {sz : Int} {ts tz : Tok} {its : List Value} {v : Value} {news : List (Addr × Obj)} {g1 : Obj -> List (Addr × Obj)}
 (B : Below A₀ base outer h₀) (F : Fr h₀ L s.heap m) (X : (Mine.hd.heap_1 w.params).In h₀) (N : News h₀ L s.heap news) (T : Top p loose mean mg mb h₀) (hk : cs.kind = .function)
 (U : UpdF a1 (accO (its ++ [v]) ep dx) news g1) (h2 : (dx, dictOf [⟨hs1, .str q0o ts, .int sz tz⟩] 1) ∈ news) (hlen : its.length < sizeLine)
 (hd : dp + 30 < recursionLimit) (hu : un + 400 < cLine)
 (ret : ∀ h' tk', Fr h₀ L h' m -> News h₀ L h' (g1 (accO its (ep + 1) dx)) -> Q v { s with heap := h', toks := tk' }) :
 wpAny (model Challenge.rw_un0030_01.row.prog w) (ktrTop dp un gd cn cs L a ccd cl outer) (call (.ref 209) [.ref a1]) Q E s := by
 have h1 : (a1, accO (its ++ [v]) ep dx) ∈ news := q49 U
 have hne : @Ne Nat a1 dx := by
  intro e
  have e1 := (N _ h1).1
  have e2 := (N _ h2).1
  rw [show ((a1, accO (its ++ [v]) ep dx) : Addr × Obj).1 = ((dx : Addr), dictOf [⟨hs1, .str q0o ts, .int sz tz⟩] 1).1 from e, e2] at e1
  cases e1
 refine qdi (rest := restOf a1 dx news) B F X (News.sub N (sub2 h1 h2)) (News.sub N q50) q5a T hk hne hlen hd hu fun h' tk' F' N' => ret h' tk' F' (qgi N U h2 N')
theorem qg2 {w : World} {p : Program} {loose : List Str} {mean : ExcName -> Option Value} {mg mb : Str -> Option Value}
 {dp un : Nat} {gd : Option (List Code)} {cn : Str} {cs : Scope} {a : Addr} {ccd : Value} {cl : List (Str × Addr)} {outer : List Env} {A₀ : Around} {base h₀ : Heap} {L : Addr} {m : Str -> Option Value} {s : Shared}
 {Q E : Value -> Shared -> Prop} {a1 dx : Addr} {ep : Nat} {hs1 : Int} {sz : Int} {ts tz : Tok} {news : List (Addr × Obj)} {g1 : Obj -> List (Addr × Obj)}
 (B : Below A₀ base outer h₀) (F : Fr h₀ L s.heap m) (X : (Mine.hd.heap_1 w.params).In h₀) (N : News h₀ L s.heap news) (T : Top p loose mean mg mb h₀) (hk : cs.kind = .function)
 (U : UpdF a1 (accO [] ep dx) news g1) (h2 : (dx, dictOf [⟨hs1, .str q0o ts, .int sz tz⟩] 1) ∈ news)
 (hd : dp + 30 < recursionLimit) (hu : un + 400 < cLine)
 (ret : ∀ h' tk' D t1 t2, Fr h₀ L h' m -> News h₀ L h' ((D, tupO "" "" t1 t2) :: g1 (accO [] ep dx)) -> Q (.ref D) { s with heap := h', toks := tk' }) :
 wpAny (model Challenge.rw_un0030_01.row.prog w) (ktrTop dp un gd cn cs L a ccd cl outer) (call (.ref 209) [.ref a1]) Q E s := by
 have h1 : (a1, accO [] ep dx) ∈ news := q49 U
 have hne : @Ne Nat a1 dx := by
  intro e
  have e1 := (N _ h1).1
  have e2 := (N _ h2).1
  rw [show ((a1, accO [] ep dx) : Addr × Obj).1 = ((dx : Addr), dictOf [⟨hs1, .str q0o ts, .int sz tz⟩] 1).1 from e, e2] at e1
  cases e1
 refine qbz (rest := restOf a1 dx news) B F X (News.sub N (sub2 h1 h2)) (News.sub N q50) q5a T hk hne hd hu fun h' tk' D t1 t2 F' N' => ret h' tk' D t1 t2 F' (q0n (N' _ (.head _)) (qgi N U h2 (News.sub N' fun q hq => .tail _ hq)))
section
section
variable {prog : Program} {w : World} {A : Around} {E : Value -> Shared -> Prop} {s : Shared} {x y : Addr} {h₀ : Heap} {L : Addr} {m : Str -> Option Value} {news att : List (Addr × Obj)}
theorem qcu {f p : Str} {tf tp u1 u2 : Tok} {Q : Value -> Shared -> Prop} (hx : s.heap.get? x = some (tupO f p tf tp)) (hy : s.heap.get? y = some (tupO (Str.ofString " ") (Str.ofString "") u1 u2))
  (h1 : PyData.strOk f = true) (h2 : PyData.strOk p = true) (hp : p ≠ Str.ofString "" ∨ f ≠ Str.ofString " ") (hu : A.units + 64 < cLine) (h : Q (.bool true) s) : wpAny (model prog w) A (compareOp .NotEq (.ref x) (.ref y)) Q E s := by
 refine ne_dataH (reads_tuple_at hx rfl rfl (.cons (Reads.str f tf) (.cons (Reads.str p tp) .nil))) (reads_tuple_at hy rfl rfl (.cons (Reads.str _ _) (.cons (Reads.str _ _) .nil))) ?_ ?_ hu ?_
 ·simp [SeqAt.shaped, PyData.canLay0, PyData.canLayAll0, PyData.depth, PyData.depthAll, h1, h2]
 ·decide +kernel
 ·have e : PyData.eqv (.tuple [.str f, .str p]) (.tuple [.str (Str.ofString " "), .str (Str.ofString "")]) = false := by
   simp only [PyData.eqv, PyData.eqvAll, Bool.and_true]
   rcases hp with hp | hp
   ·rw [show (p == Str.ofString "") = false from beq_eq_false_iff_ne.mpr hp, Bool.and_false]
   ·rw [show (f == Str.ofString " ") = false from beq_eq_false_iff_ne.mpr hp, Bool.false_and]
  rw [e]
  exact h
theorem q8x {K : Frag} {C f : Addr} {ox : Obj} {od : Option Obj} {Q : Bool -> Shared -> Prop} (F : Fr h₀ L s.heap m) (X₀ : K.In h₀) (I : InstAt s.heap x ox C od) (hb : findIn K (.ref C) "__bool__" = some none) (hs : findIn K (.ref C) "__len__" = some (some (.ref f))) (hf : isFn K (.ref f) = true)
  (h : wpAny (model prog w) A.in1 (call (.ref f) [.ref x]) (fun r s' => ∃ n u, r = .int n u /\ (0 < n /\ n < 2 ^ 63) /\ Q true { s' with toks := s'.toks + 1 }) E s) : wpAny (model prog w) A (truthy (.ref x)) Q E s := by
 have X := X₀.keeps F.keep
 have key : wpAny (model prog w) A (runValue (.builtin "len" ⟨[.ref x], []⟩)) (fun r s' => ∃ n u, r = .int n u /\ n ≠ 0 /\ Q true s') E s := by
  refine wpAny_runValue (codeAny_builtin entry_len ?_)
  rw [Around.under_plainId plain_len _]
  unfold Builtin.«len»
  refine wpAny_bind (m := oneArg "len" _) (wpAny_pure ?_)
  refine wpAny_bind (m := callSpecial? (.ref x) (Str.ofString "__len__")) (special_fn X I hs (beq_iff_eq.mp hf) (wpAny_mono h (fun r s' hr => ?_) fun _ _ y => y))
  (refine q08 hr fun n u z1z z2z hq => ?_; (try clear hr); subst z1z; obtain ⟨h0, h1⟩ := z2z)
  refine wpAny_bind (wpAny_holding (wpAny_pure ?_))
  refine wpAny_bind (wpAny_letGo ?_)
  show wpAny _ _ (if n < 0 then _ else _) _ _ _
  rw [if_neg (by exact o334 h0)]
  show wpAny _ _ (if n ≥ 2 ^ 63 then _ else _) _ _ _
  rw [if_neg (by exact Int.not_le.mpr h1)]
  exact wpAny_bind (wpAny_mkInt (wpAny_pure ⟨_, _, rfl, by exact Int.ne_of_gt h0, hq⟩))
 unfold truthy
 refine wpAny_bind (m := callSpecial? (.ref x) (Str.ofString "__bool__")) (wpAny_bind (wpAny_bind (I.type.here ((looks_findIn X hb).here (wpAny_pure ?_)))))
 refine wpAny_bind (wpAny_bind (I.type.here ((looks_findIn X hs).here ?_)))
 refine wpAny_bind (wpAny_mono key (fun r s' hr => ?_) fun _ _ y => y)
 (refine q08 hr fun n u z1z hn hq => ?_; (try clear hr); subst z1z)
 have e : (n != 0) = true := bne_iff_ne.mpr hn
 show wpAny _ _ (pure (n != 0)) _ _ _
 rw [e]
 exact wpAny_pure hq
theorem qbp {o : Obj} {its : Array Value} {n : Nat} {ws : List Value} {Q : List Value -> Shared -> Prop} (F : Fr h₀ L s.heap m) (N : News h₀ L s.heap news) (ha : s.heap.get? x = some o) (hc : o.cls = .type "tuple") (hd : o.data = .seq its n) (e : its.toList = ws)
  (hz : its.size <= sizeLine) (h : ∀ h', Fr h₀ L h' m -> News h₀ L h' news -> Q ws { s with heap := h' }) : StarOf (model prog w) A E (.ref x) Q s := by
 have hT' : s.TypeIs (.ref x) "tuple" := ⟨o, ha, hc⟩
 subst e
 have z : wpAny (model prog w) A (collect (.ref x)) Q E s := by
  refine wpAny_collect_seq x (.inr rfl) ha hc hd (fun h' hk => h h' ?_ fun p hp => ⟨hk _ _ (N p hp).1, (N p hp).2⟩) hz
  (refine q2u (F.ns) fun oL es ep hL r => ?_)
  exact ⟨⟨oL, es, ep, hk _ _ hL, r⟩, fun b x q => hk _ _ (F.keep b x q), F.above⟩
 unfold StarOf notIterableAtAll
 exact wpAny_bind (wpAny_specialOf hT' PySem.F.slot_tuple_iter.lookup (wpAny_pure ⟨rfl, z⟩))
end
theorem q41 (cs : List (Str × Str)) (c : Str × Str) : csum (cs ++ [c]) = csum cs + q0l c := by simp [csum, q0l, List.sum_append]
theorem q1j (cs : List (Str × Str)) : 0 <= csum cs := by
 have := (q2x cs cs.length).1
 rw [List.take_of_length_le (by simp)] at this
 exact this
theorem qes {p : Str} (h : p ≠ Str.ofString "") : 0 < p.length := by
 rcases Nat.eq_zero_or_pos p.length with e | e
 ·refine absurd (qb8 ?_) h
  have h1 : p.cps.size = 0 := e
  rw [show p.cps.toList = [] from List.eq_nil_of_length_eq_zero (by simpa using h1)]
  decide
 ·exact e
theorem qdn {cs chi : List (Str × Str)} {f p : Str} (h : cs = chi ++ [(f, p)]) (hp : p ≠ Str.ofString "") : 0 < csum cs := by
 subst h
 rw [q41]
 have h1 := q1j chi
 have h2 := qes hp
 have h3 : q0l (f, p) = ((f.length : Nat) : Int) + ((p.length : Nat) : Int) := rfl
 omega
structure FK where
 (k1 k2 k3 k4 k5 k6 : Int) (u1 u2 u3 u4 u5 u6 w1 w2 w3 w4 : Tok)
noncomputable abbrev fmtD (K : FK) (W : Int) (sp : Str) (ll a1 : Addr) : Obj := dictOf [⟨K.k1, .str (Str.ofString "_maxlen") K.u1, .int W K.w1⟩, ⟨K.k2, .str (Str.ofString "_continuation_ws") K.u2, .str (Str.ofString " ") K.w2⟩, ⟨K.k3, .str (Str.ofString "_continuation_ws_len") K.u3, .int 1 K.w3⟩, ⟨K.k4, .str (Str.ofString "_splitchars") K.u4, .str sp K.w4⟩, ⟨K.k5, .str (Str.ofString "_lines") K.u5, .ref ll⟩, ⟨K.k6, .str (Str.ofString "_current_line") K.u6, .ref a1⟩] 6
noncomputable abbrev fmtO (fd : Addr) : Obj := instObj 165 fd
end
section
section
variable {prog : Program} {w : World} {A : Around} {E : Value -> Shared -> Prop} {R : Result -> Shared -> Prop} {s : Shared}
theorem q7a (elt it1 it2 : Expr) (x y : Str) (px py : Pos) (ifs : List Expr) (scope : Scope) (pos : Pos) (it acc : Value) (env : Env) :
  compTurn (.ListComp elt [⟨.Name x px, it1, [], 0⟩, ⟨.Name y py, it2, ifs, 0⟩] scope pos) 0 it acc env = (do
   standAt it1.pos
   match <- pyNext it with
   | none => pure (.done .next)
   | some v =>
    letOwnedTupleGo (.Name x px) it v
    assign (.Name x px) env v
    let xv <- eval it2 env
    standAt it2.pos
    let xv <- foldedSetIterable it2 env xv
    let _ <- runOwn (.compStart (.ListComp elt [⟨.Name x px, it1, [], 0⟩, ⟨.Name y py, it2, ifs, 0⟩] scope pos) 1 (<- holding [xv] (pyIter xv)) acc env) env
    again (.compLoop (.ListComp elt [⟨.Name x px, it1, [], 0⟩, ⟨.Name y py, it2, ifs, 0⟩] scope pos) 0 it acc env)) := by rfl
theorem q7g (elt it1 it2 : Expr) (x y : Str) (px py : Pos) (ifs : List Expr) (scope : Scope) (pos : Pos) (it acc : Value) (env : Env) :
  compTurn (.ListComp elt [⟨.Name x px, it1, [], 0⟩, ⟨.Name y py, it2, ifs, 0⟩] scope pos) 1 it acc env = (do
   standAt it2.pos
   match <- pyNext it with
   | none => pure (.done .next)
   | some v =>
    letOwnedTupleGo (.Name y py) it v
    assign (.Name y py) env v
    let mut ok := true
    for c in ifs do
     if ok then ok <- isTrue c env (eval c env)
    if ok then
     (do let _ <- call (.builtin "list.append") [acc, <- eval elt env])
    again (.compLoop (.ListComp elt [⟨.Name x px, it1, [], 0⟩, ⟨.Name y py, it2, ifs, 0⟩] scope pos) 1 it acc env)) := by rfl
theorem q7k {elt it1 it2 : Expr} {x y : Str} {px py : Pos} {ifs : List Expr} {scope : Scope} {pos : Pos} {it acc : Value} {env : Env} (I : Nat -> Shared -> Prop)
  (turn : ∀ n s, I n s -> wpAny (model prog w) A (pyNext it) (fun r s₁ => match r with
   | none => R (.ok .next) s₁
   | some v => wpAny (model prog w) A (assign (.Name y py) env v) (fun _ s₂ =>
     wpAny (model prog w) A (forIn ifs true fun c r => if r = true then do let ok <- isTrue c env (eval c env); pure (ForInStep.yield ok) else pure (ForInStep.yield r)) (fun ok s₃ =>
      if ok = true then wpAny (model prog w) A (eval elt env) (fun x s₄ =>
       wpAny (model prog w) A (call (.builtin "list.append") [acc, x]) (fun _ s₅ => ∃ m, m < n /\ I m s₅) (notedBy (model prog w) A env fun e s' => R (.error e) s') s₄) (notedBy (model prog w) A env fun e s' => R (.error e) s') s₃
      else ∃ m, m < n /\ I m s₃) (notedBy (model prog w) A env fun e s' => R (.error e) s') s₂) (notedBy (model prog w) A env fun e s' => R (.error e) s') s₁) (notedBy (model prog w) A env fun e s' => R (.error e) s') s)
  (n : Nat) (h : I n s) :
  codeAny (model prog w) A (.compLoop (.ListComp elt [⟨.Name x px, it1, [], 0⟩, ⟨.Name y py, it2, ifs, 0⟩] scope pos) 1 it acc env) R s := by
 refine codeAny_loop rfl I (fun n s hI => ?_) n h
 show wpAny _ A ((compTurn (.ListComp elt [⟨.Name x px, it1, [], 0⟩, ⟨.Name y py, it2, ifs, 0⟩] scope pos) 1 it acc env).onRaise (fun x => do noteFrame x env; theTreesLotGoes x)) _ _ s
 refine wpAny_noted ?_
 rw [q7g]
 refine wpAny_bind (wpAny_standAt (wpAny_bind (wpAny_mono (turn n s hI) (fun r s₁ h₁ => ?_) fun _ _ h' => h')))
 cases r with
 | none => exact wpAny_pure h₁
 | some v =>
  refine wpAny_bind (wpAny_of_eq (a := ()) (by rfl) ?_)
  refine wpAny_bind (wpAny_mono h₁ (fun _ s₂ h₂ => wpAny_bind (wpAny_mono h₂ (fun ok s₃ h₃ => ?_) fun _ _ h' => h')) fun _ _ h' => h')
  cases ok with
  | false => exact wpAny_pure ⟨rfl, h₃⟩
  | true =>
   exact wpAny_bind (wpAny_bind (wpAny_mono h₃ (fun x s₄ h₄ => wpAny_bind (wpAny_mono h₄ (fun _ s₅ h₅ => wpAny_pure (wpAny_pure ⟨rfl, h₅⟩)) fun _ _ h' => h')) fun _ _ h' => h'))
theorem q7q {elt it1 it2 : Expr} {x y : Str} {px py : Pos} {ifs : List Expr} {scope : Scope} {pos : Pos} {it acc : Value} {env : Env} (I : Nat -> Shared -> Prop)
  (turn : ∀ n s, I n s -> wpAny (model prog w) A (pyNext it) (fun r s₁ => match r with
   | none => R (.ok .next) s₁
   | some v => wpAny (model prog w) A (assign (.Name x px) env v) (fun _ s₂ =>
     wpAny (model prog w) A (eval it2 env) (fun xv s₃ => wpAny (model prog w) A (pyIter xv) (fun jt s₄ =>
      codeAny (model prog w) (A.mark none) (.compStart (.ListComp elt [⟨.Name x px, it1, [], 0⟩, ⟨.Name y py, it2, ifs, 0⟩] scope pos) 1 jt acc env) (fun r s' => match r with | .ok _ => ∃ m, m < n /\ I m s' | .error e => cameBackBy (model prog w) A env (notedBy (model prog w) A env fun e s' => R (.error e) s') e s') s₄) (notedBy (model prog w) A env fun e s' => R (.error e) s') s₃) (notedBy (model prog w) A env fun e s' => R (.error e) s') s₂) (notedBy (model prog w) A env fun e s' => R (.error e) s') s₁) (notedBy (model prog w) A env fun e s' => R (.error e) s') s)
  (n : Nat) (h : I n s) (hs : ∀ x, foldedSetIterable it2 env x = pure x) :
  codeAny (model prog w) A (.compLoop (.ListComp elt [⟨.Name x px, it1, [], 0⟩, ⟨.Name y py, it2, ifs, 0⟩] scope pos) 0 it acc env) R s := by
 refine codeAny_loop rfl I (fun n s hI => ?_) n h
 show wpAny _ A ((compTurn (.ListComp elt [⟨.Name x px, it1, [], 0⟩, ⟨.Name y py, it2, ifs, 0⟩] scope pos) 0 it acc env).onRaise (fun x => do noteFrame x env; theTreesLotGoes x)) _ _ s
 refine wpAny_noted ?_
 rw [q7a]
 refine wpAny_bind (wpAny_standAt (wpAny_bind (wpAny_mono (turn n s hI) (fun r s₁ h₁ => ?_) fun _ _ h' => h')))
 cases r with
 | none => exact wpAny_pure h₁
 | some v =>
  refine wpAny_bind (wpAny_of_eq (a := ()) (by rfl) ?_)
  refine wpAny_bind (wpAny_mono h₁ (fun _ s₂ h₂ => ?_) fun _ _ h' => h')
  refine wpAny_bind (wpAny_mono h₂ (fun xv s₃ h₃ => wpAny_bind (wpAny_standAt (wpAny_bind ?_))) fun _ _ h' => h')
  refine wpAny_of_eq (hs xv) ?_
  refine wpAny_bind (wpAny_holding (wpAny_mono h₃ (fun jt s₄ h₄ => ?_) fun _ _ h' => h'))
  refine wpAny_bind (wpAny_runOwn (codeAny_mono h₄ fun r s' hr => ?_))
  cases r with
  | ok f => exact wpAny_pure ⟨rfl, hr⟩
  | error e => exact hr
theorem q75 {elt it1 it2 : Expr} {x y : Str} {px py : Pos} {ifs : List Expr} {scope : Scope} {pos : Pos} {it acc : Value} {env : Env}
  (h₁ : codeAny (model prog w) A (.compLoop (.ListComp elt [⟨.Name x px, it1, [], 0⟩, ⟨.Name y py, it2, ifs, 0⟩] scope pos) 1 it acc env) R s)
  (h₂ : wpAny (model prog w) A (pyIter it) (fun it' s' => codeAny (model prog w) A (.compLoop (.ListComp elt [⟨.Name x px, it1, [], 0⟩, ⟨.Name y py, it2, ifs, 0⟩] scope pos) 1 it' acc env) R s') (notedBy (model prog w) A env fun e s' => R (.error e) s') s) :
  codeAny (model prog w) A (.compStart (.ListComp elt [⟨.Name x px, it1, [], 0⟩, ⟨.Name y py, it2, ifs, 0⟩] scope pos) 1 it acc env) R s := by
 refine codeAny_of_tree ?_
 show wpAny _ _ ((compStart (.ListComp elt [⟨.Name x px, it1, [], 0⟩, ⟨.Name y py, it2, ifs, 0⟩] scope pos) 1 it acc env).onRaise (fun x => do noteFrame x env; standAt theWindowsPlace)) _ _ s
 refine wpAny_notedAt ?_
 unfold compStart
 show wpAny _ _ (ask >>= _) _ _ s
 refine wpAny_bind (wpAny_askSetting (wpAny_ite ?_))
 split
 ·first
   | exact wpAny_bind (wpAny_pure (wpAny_pure (And.intro rfl h₁)))
   | exact wpAny_pure (And.intro rfl h₁)
 ·first
   | exact wpAny_bind (wpAny_rule (wpAny_bind (wpAny_standAt (wpAny_bind (wpAny_mono h₂ (fun it' s' h' => wpAny_pure (And.intro rfl h')) fun _ _ x => x)))))
   | (refine wpAny_bind (wpAny_rule ?_); show wpAny _ _ (standAt it2.pos >>= _) _ _ s; exact wpAny_bind (wpAny_standAt (wpAny_bind (wpAny_mono h₂ (fun it' s' h' => wpAny_pure (And.intro rfl h')) fun _ _ x => x))))
end
end
section
theorem q7x (x y : Value) : Builtin.«tuple.__lt__» ⟨[x, y], []⟩ = (do
  if !(<- isInstance y (.type "tuple")) then return <- ret .notImplemented
  let xs <- Builtin.Tuple.tupleItemsOf x
  let ys <- Builtin.Tuple.tupleItemsOf y
  for (p, q) in xs.toList.zip ys.toList do
   if !(<- eqBool p q) then
    rule "tuple.compare.by-the-first-pair-that-differs"
    return <- ret (<- richCompare .Lt p q)
  ret (Builtin.Tuple.tupleCompareSizes .Lt xs.size ys.size)) := by rfl
noncomputable def q0v (a b : Int × Int × Int) : Bool := if a.1 = b.1 then (if a.2.1 = b.2.1 then decide (a.2.2 < b.2.2) else decide (a.2.1 < b.2.1)) else decide (a.1 < b.1)
section
variable {prog : Program} {w : World} {A : Around} {E : Value -> Shared -> Prop} {s : Shared}
theorem qfz {a b : Addr} {oa ob : Obj} {x y z x' y' z' : Int} {t1 t2 t3 u1 u2 u3 : Tok} {na nb : Nat} {Q : Value -> Shared -> Prop} (ha : s.heap.get? a = some oa) (ca : oa.cls = .type "tuple") (da : oa.data = .seq #[.int x t1, .int y t2, .int z t3] na)
  (hb : s.heap.get? b = some ob) (cb : ob.cls = .type "tuple") (db : ob.data = .seq #[.int x' u1, .int y' u2, .int z' u3] nb) (hu : A.units < cLine) (h : Q (.bool (q0v (x, y, z) (x', y', z'))) s) : wpAny (model prog w) A (richCompare .Lt (.ref a) (.ref b)) Q E s := by
 refine wpAny_richCompare_same_room ⟨_, ha, ca⟩ ⟨_, hb, cb⟩ PySem.F.slot_tuple_lt ?_ hu
 refine wpAny_call_entry PySem.F.slot_tuple_lt ⟨_, ha, ca⟩ PySem.F.entry_tuple_lt ?_ (PySem.F.args_tuple_lt_2 _ _)
 rw [q7x]
 refine wpAny_bind (wpAny_isInstance (T := "tuple") ⟨_, hb, cb⟩ KPt.sub_tt ?_)
 simp only [Bool.not_true, Bool.false_eq_true, if_false]
 refine wpAny_bind (wpAny_tupleItemsOf ha da (wpAny_bind (wpAny_tupleItemsOf hb db ?_)))
 simp only [List.zip_cons_cons, List.zip_nil_right, List.forIn_cons]
 have fin : ∀ (p : Bool) (q : Bool), p = q -> Q (.bool q) s -> Q (.bool p) s := fun p q e => by rw [e]; exact id
 refine wpAny_bind (wpAny_bind (wpAny_bind (wpAny_eqBool_int ?_)))
 by_cases hx : x = x'
 ·have h0 := h
  unfold q0v at h0
  rw [if_pos hx] at h0
  have e : (x == x') = true := by simp [hx]
  rw [e]
  simp only [Bool.not_true, Bool.false_eq_true, if_false]
  refine wpAny_pure ?_
  dsimp only
  refine wpAny_bind (wpAny_bind (wpAny_eqBool_int ?_))
  clear e
  by_cases hy : y = y'
  ·rw [if_pos hy] at h0
   have e : (y == y') = true := by simp [hy]
   rw [e]
   simp only [Bool.not_true, Bool.false_eq_true, if_false]
   refine wpAny_pure ?_
   dsimp only
   refine wpAny_bind (wpAny_bind (wpAny_eqBool_int ?_))
   clear e
   by_cases hz : z = z'
   ·rw [show (decide ((x, y, z).2.2 < (x', y', z').2.2)) = false by simp [hz]] at h0
    have e : (z == z') = true := by simp [hz]
    rw [e]
    simp only [Bool.not_true, Bool.false_eq_true, if_false]
    refine wpAny_pure ?_
    dsimp only
    simp only [List.forIn_nil]
    refine wpAny_pure ?_
    dsimp only
    exact wpAny_pure ⟨_, rfl, nofun, h0⟩
   ·have e : (z == z') = false := by simp [hz]
    rw [e]
    simp only [Bool.not_false, if_true]
    refine wpAny_bind (wpAny_rule (wpAny_bind (wpAny_lt_int (wpAny_bind (wpAny_pure (wpAny_pure ?_))))))
    dsimp only
    refine wpAny_pure ?_
    dsimp only
    refine wpAny_pure ⟨_, rfl, nofun, ?_⟩
    exact h0
  ·rw [if_neg hy] at h0
   have e : (y == y') = false := by simp [hy]
   rw [e]
   simp only [Bool.not_false, if_true]
   refine wpAny_bind (wpAny_rule (wpAny_bind (wpAny_lt_int (wpAny_bind (wpAny_pure (wpAny_pure ?_))))))
   dsimp only
   refine wpAny_pure ?_
   dsimp only
   refine wpAny_pure ⟨_, rfl, nofun, ?_⟩
   exact h0
 ·have h0 := h
  unfold q0v at h0
  rw [if_neg hx] at h0
  have e : (x == x') = false := by simp [hx]
  rw [e]
  simp only [Bool.not_false, if_true]
  refine wpAny_bind (wpAny_rule (wpAny_bind (wpAny_lt_int (wpAny_bind (wpAny_pure (wpAny_pure ?_))))))
  dsimp only
  refine wpAny_pure ?_
  dsimp only
  refine wpAny_pure ⟨_, rfl, nofun, ?_⟩
  exact h0
end
end
section
section
variable {prog : Program} {w : World} {A : Around} {R : Result -> Shared -> Prop}
noncomputable def q6x (I S : Addr) (h h' : Heap) : Prop := ∀ b o, b ≠ I -> b ≠ S -> h.get? b = some o -> h'.get? b = some o
noncomputable def q1w (lt : Value -> Value -> Bool) : Value -> List Value -> Value
 | b, [] => b
 | b, v :: vs => q1w lt (if lt v b then v else b) vs
noncomputable def boxO (l : List Value) (c : Nat) : Obj := { cls := .type "list", dict := none, data := .seq l.toArray c, slots := #[] }
theorem qg1 {I S l : Addr} {H : Heap} {vs : List Value} (lt : Value -> Value -> Bool) (hh : A.in1.handled = none) (hIl : l ≠ I) (hSI : S ≠ I) (hSl : S ≠ l)
  (hcmp : ∀ u v (s : Shared) (Q E : Value -> Shared -> Prop), u ∈ vs -> v ∈ vs -> q6x I S H s.heap -> Q (.bool (lt u v)) s -> wpAny (model prog w) A.in1 (richCompare .Lt u v) Q E s) :
  ∀ (rest pre : List Value) (b : Value) (c : Nat) (s : Shared), vs = pre ++ rest -> b ∈ vs -> q6x I S H s.heap -> s.heap.IsListIter I l pre.length -> s.heap.IsList l vs.toArray -> s.heap.get? S = some (boxO [b, b] c) →
  (∀ h' tk, q6x I S H h' -> R (.ok (.ret (q1w lt b rest))) { s with heap := h', toks := tk }) →
  codeAny (model prog w) A (.builtin "min.loop" ⟨[.ref I, .none, .ref S], []⟩) R s := by
 have hname : (toString "min" ++ toString ".loop" : String) = "min.loop" := by decide
 intro rest
 induction rest with
 | nil =>
  intro pre b c s hvs hb hK hit hl hS hR
  refine codeAny_builtin PySem.F.entry_min_loop ?_
  rw [Around.under_plainId PySem.F.plain_min_loop _]
  show wpAny _ A.in1 (seqItems? (.ref S) >>= _) _ _ s
  refine wpAny_bind (wpAny_seqItems hS rfl ?_)
  show wpAny _ A.in1 (tryCatch (pyNext (.ref I)) _ >>= _) _ _ s
  have hv : vs.toArray[pre.length]? = none := by rw [hvs]; simp
  refine wpAny_bind (wpAny_tryCatch (wpAny_pyNext_list_end hh hit hl hv fun h₁ he₁ => ?_))
  have hS' : h₁.get? S = some (boxO [b, b] c) := he₁ S _ hSI hS
  show wpAny _ A.in1 (updateSeq S (fun _ => #[]) >>= _) _ _ _
  refine wpAny_bind (wpAny_updateSeq hS' rfl (wpAny_bind (wpAny_letGo (wpAny_pure ?_))))
  exact hR _ s.toks fun b o h1 h2 e => (Heap.get?_update_other _ _ (Ne.symm h2)).trans (he₁ b o h1 (hK b o h1 h2 e))
 | cons v rest ih =>
  intro pre b c s hvs hb hK hit hl hS hR
  have hv : vs.toArray[pre.length]? = some v := by rw [hvs]; simp
  have hvm : v ∈ vs := by rw [hvs]; simp
  refine codeAny_builtin PySem.F.entry_min_loop ?_
  rw [Around.under_plainId PySem.F.plain_min_loop _]
  show wpAny _ A.in1 (seqItems? (.ref S) >>= _) _ _ s
  refine wpAny_bind (wpAny_seqItems hS rfl ?_)
  show wpAny _ A.in1 (tryCatch (pyNext (.ref I)) _ >>= _) _ _ s
  refine wpAny_bind (wpAny_tryCatch (wpAny_pyNext_list_item hit hl hv fun h₁ hit₁ hs₁ => ?_))
  have hS' : h₁.get? S = some (boxO [b, b] c) := hs₁.extBut S _ hSI hS
  have hl₁ : h₁.IsList l vs.toArray := hl.at fun o e => hs₁.extBut l o hIl e
  have hK₁ : q6x I S H h₁ := fun b o h1 h2 e => hs₁.extBut b o h1 (hK b o h1 h2 e)
  show wpAny _ A.in1 (tryCatch (holding [v, v] (richCompare .Lt v b >>= _)) _ >>= _) _ _ _
  refine wpAny_bind (wpAny_tryCatch (wpAny_holding (wpAny_bind (hcmp v b _ _ _ hvm hb hK₁ ?_))))
  refine wpAny_bind (wpAny_holding (wpAny_truthy_bool ?_))
  refine wpAny_bind (wpAny_letGo (wpAny_pure ?_))
  have hpl : (pre ++ [v]).length = pre.length + 1 := by simp
  have hvs2 : vs = (pre ++ [v]) ++ rest := by rw [hvs]; simp
  cases hb2 : lt v b with
  | true =>
   simp only [if_true]
   refine wpAny_bind (wpAny_updateSeq hS' rfl (wpAny_bind (wpAny_letGo ?_)))
   rw [hname]
   refine wpAny_pure ⟨plainId_quiet PySem.F.plain_min_loop _, ih (pre ++ [v]) v _ _ hvs2 hvm (fun b o h1 h2 e => (Heap.get?_update_other _ _ (Ne.symm h2)).trans (hK₁ b o h1 h2 e)) (by rw [hpl]; exact hit₁.at fun o e => (Heap.get?_update_other _ _ hSI).trans e) (hl₁.at fun o e => (Heap.get?_update_other _ _ hSl).trans e) (Heap.get?_update_self _ hS' rfl) fun h' tk hK' => ?_⟩
   have := hR h' tk hK'
   rw [show q1w lt b (v :: rest) = q1w lt v rest by unfold q1w; rw [hb2, if_pos rfl]; cases rest <;> rfl] at this
   exact this
  | false =>
   simp only [Bool.false_eq_true, if_false]
   refine wpAny_bind (wpAny_letGo ?_)
   rw [hname]
   refine wpAny_pure ⟨plainId_quiet PySem.F.plain_min_loop _, ih (pre ++ [v]) b c _ hvs2 hb hK₁ (by rw [hpl]; exact hit₁) hl₁ hS' fun h' tk hK' => ?_⟩
   have := hR h' tk hK'
   rw [show q1w lt b (v :: rest) = q1w lt b rest by show q1w lt (if lt v b = true then v else b) rest = _; rw [hb2]; rfl] at this
   exact this
end
end
theorem kfi {vs : List Value} {ns : List Int} (h : IntsAre vs ns) : kf_ints vs = true := by
 induction h with
 | nil => rfl
 | cons n t h ih => exact ih
theorem kfat {vs : List Value} {ns : List Int} {k : Int} (h : IntsAre vs ns) (hk : k ∈ ns) : kf_at k vs = some (ns.idxOf k) := by
 induction h with
 | nil => cases hk
 | cons n t h ih =>
  unfold kf_at
  by_cases e : n = k
  ·subst e
   rw [show isInt n (.int n t) = true by simp [isInt]]
   simp [List.idxOf_cons]
  ·rw [show isInt k (.int n t) = false by simp [isInt, e]]
   have hk2 : k ∈ _ := (List.mem_cons.mp hk).resolve_left (fun q => e q.symm)
   rw [ih hk2]
   rw [List.idxOf_cons]
   have : (n == k) = false := by simp [e]
   rw [this]; rfl
theorem qhb {vs : List Value} {ns : List Int} {k : Int} (h : IntsAre vs ns) : vs.any (isInt k) = decide (k ∈ ns) := by
 induction h with
 | nil => simp
 | cons n t h ih =>
  rw [List.any_cons, ih]
  by_cases e : n = k
  ·subst e
   simp [isInt]
  ·simp [isInt, e, Ne.symm e]
section
section
variable {prog : Program} {w : World} {A : Around} {E : Value -> Shared -> Prop} {h₀ hh : Heap} {L l : Addr} {m : Str -> Option Value} {news : List (Addr × Obj)} {g : Array GenState} {d : Drawn} {t : Nat} {os : OsState}
theorem qad {s : Shared} {value slice : Expr} {o i : Value} {ops : List Value} {T id : String} {Q : Value -> Shared -> Prop} (hT : s.TypeIs o T) (hl : typeLookup (.type T) "__getitem__" = pure (some (.builtin id))) (h : wpAny (model prog w) A (getItem o i) Q E s)
  (hs : subscripted slice false o i = operate ops (getItem o i)) : wpAny (model prog w) A (subscriptTail value slice o i) Q E s := by
 have fin : wpAny (model prog w) A (subscripted slice false o i) (fun r s₃ => wpAny (model prog w) A (letTemporaryGo value o r >>= fun _ => pure r) Q E s₃) E s := by
  rw [hs]
  exact wpAny_operating (wpAny_mono h (fun r s₃ h₃ => wpAny_bind (wpAny_letTemporaryGo (wpAny_pure h₃))) fun _ _ x => x)
 unfold subscriptTail
 refine wpAny_bind ?_
 rw [getitemInPython_of_ne hT.not_modules]
 refine wpAny_bind (wpAny_specialOf hT hl ?_)
 first
  | exact wpAny_pure (wpAny_bind fin)
  | exact wpAny_bind (wpAny_pure (wpAny_bind fin))
  | exact wpAny_bind fin
theorem qc3 {value : Expr} {lw up : Option Expr} {ps : Pos} {vl vu : Value} {lo hi : Option Int} {vs : List Value} {n : Nat} {Q : Value -> Shared -> Prop} (F : Fr h₀ L hh m) (N : News h₀ L hh news) (hl : (l, W.listOf vs.toArray n) ∈ news)
  (pl : IsPart vl lo) (pu : IsPart vu hi) (hz : vs.length <= 1000000)
  (h : ∀ D h', Fr h₀ L h' m -> News h₀ L h' ((D, W.listOf (slicePick vs.toArray lo hi none) 0) :: news) -> (∀ p ∈ news, p.1 < D) -> Q (.ref D) ⟨h', g, d, t, os⟩) :
  wpAny (model prog w) A (subscriptTail value (.Slice lw up none ps) (.ref l) (.ref hh.objs.size)) Q E ⟨hh.push { cls := .type "slice", data := .fields #[vl, vu, .none] }, g, d, t, os⟩ := by
 have F1 := F.push { cls := .type "slice", data := .fields #[vl, vu, .none] }
 have kp : ∀ b o, hh.get? b = some o -> (hh.push { cls := .type "slice", data := .fields #[vl, vu, .none] }).get? b = some o := fun b o e => Heap.get?_push_of_some _ e
 have N1 : News h₀ L (hh.push { cls := .type "slice", data := .fields #[vl, vu, .none] }) news := fun q hq => ⟨kp _ _ (N q hq).1, (N q hq).2⟩
 have hz' : vs.toArray.size <= sizeLine := by rw [List.size_toArray]; exact Nat.le_trans hz (by decide)
 have hL := News.isList N1 hl
 refine qad (s := ⟨_, g, d, t, os⟩) (ops := [.ref hh.objs.size, .ref l]) hL.typeIs list_getitem_lookup (wpAny_getItem_list_slice (s := ⟨_, g, d, t, os⟩) (hsz := hz') hL (Heap.IsSliceOf.new ..) pl pu .none (by nofun) (h _ _ (F1.push _) (N1.push F1 _) fun q hq => Heap.lt_size (N1 q hq).1)) rfl
end
end
section
theorem q1k (args : List Value) : ownMembersOf (.type "StopIteration") args = #[] := by
 unfold ownMembersOf
 split <;> first | rfl | (rename_i h; revert h; decide) | simp_all
section
variable {prog : Program} {w : World} {A : Around} {E : Value -> Shared -> Prop} {s : Shared} {h₀ : Heap} {L it l : Addr} {m : Str -> Option Value} {news : List (Addr × Obj)} {g : Obj -> List (Addr × Obj)}
theorem qcb {vs : List Value} {n k : Nat} {x : Value} {Q : Value -> Shared -> Prop} (F : Fr h₀ L s.heap m) (N : News h₀ L s.heap news) (U : UpdF it (liO l k) news g) (hl : (l, W.listOf vs.toArray n) ∈ news) (hx : vs[k]? = some x)
  (h : ∀ h', Fr h₀ L h' m -> News h₀ L h' (g (liO l (k + 1))) -> Q x { s with heap := h' }) : wpAny (model prog w) A (call (.builtin "next") [.ref it]) Q E s := by
 (refine q10 (U.split) fun pre post e hg a b => ?_)
 have hmem : (it, liO l k) ∈ news := by rw [e]; exact List.mem_append_right _ (.head _)
 have hm := N (it, liO l k) hmem
 have hit : s.heap.IsListIter it l k := ⟨_, hm.1, rfl, rfl⟩
 have hL : s.heap.IsList l vs.toArray := News.isList N hl
 (refine q89 hL fun ol hol _ nl hdl => ?_; (try clear hL))
 refine call_function_entry (by decide +kernel) (by decide +kernel) kdk_entry_next (kdk_args_next _) ?_
 unfold Builtin.«next»
 refine wpAny_bind (m := someArgs "next" 1 2 _) (wpAny_of_eq (a := [Value.ref it]) (by first | rfl | kernel_rfl!) ?_)
 dsimp only
 refine wpAny_bind (wpAny_specialOf (name := Str.ofString "__next__") hit.typeIs slot_listiter_next.lookup ?_)
 refine wpAny_ite_split (fun hab => absurd hab (by decide)) (fun _ => ?_)
 refine wpAny_bind (wpAny_callSpecial?_slot (name := Str.ofString "__next__") hit.typeIs slot_listiter_next
  (wpAny_call_entry slot_listiter_next hit.typeIs entry_listiter_next ?_ (args_listiter_next _)))
 show wpAny _ _ (field (.ref it) 0 >>= _) _ _ s
 refine wpAny_bind (wpAny_field hm.1 rfl (x := .ref l) rfl ?_)
 show wpAny _ _ (if (Value.ref l == Value.none) = true then _ else _) _ _ s
 rw [if_neg (show ¬ ((Value.ref l == Value.none) = true) from Bool.false_ne_true)]
 show wpAny _ _ (field (.ref it) 1 >>= _) _ _ s
 refine wpAny_bind (wpAny_field hm.1 rfl (x := .int k 0) rfl ?_)
 show wpAny _ _ (seqItems? (.ref l) >>= _) _ _ s
 refine wpAny_bind (wpAny_seqItems hol hdl ?_)
 have hx2 : vs.toArray[k]? = some x := by simpa using hx
 simp only [Int.toNat_natCast, hx2]
 refine wpAny_bind (wpAny_setField hm.1 rfl (by simp) (wpAny_pure ⟨x, rfl, ?_⟩))
 refine wpAny_pure ⟨_, rfl, ?_⟩
 exact h _ (F.change (Heap.SameBut.update ..) hm.2.1 hm.2.2) (hg _ ▸ (show News h₀ L s.heap (pre ++ (it, liO l k) :: post) from e ▸ N).setIn a b (Heap.SameBut.update ..) (Heap.get?_update_self _ hm.1 rfl))
theorem qf6 {vs : List Value} {n k : Nat} {Q : Value -> Shared -> Prop} (hh : A.in1.handled = none) (F : Fr h₀ L s.heap m) (N : News h₀ L s.heap news) (U : UpdF it (liO l k) news g) (hl : (l, W.listOf vs.toArray n) ∈ news) (hx : vs[k]? = none)
  (h : ∀ h1 h' o' e, Fr h₀ L h1 m -> News h₀ L h1 (g o') -> Heap.NewExc h1 h' e "StopIteration" -> E (.ref e) { s with heap := h' }) : wpAny (model prog w) A (call (.builtin "next") [.ref it]) Q E s := by
 (refine q10 (U.split) fun pre post e hg a b => ?_)
 have hmem : (it, liO l k) ∈ news := by rw [e]; exact List.mem_append_right _ (.head _)
 have hm := N (it, liO l k) hmem
 have hit : s.heap.IsListIter it l k := ⟨_, hm.1, rfl, rfl⟩
 have hL : s.heap.IsList l vs.toArray := News.isList N hl
 (refine q89 hL fun ol hol _ nl hdl => ?_; (try clear hL))
 refine call_function_entry (by decide +kernel) (by decide +kernel) kdk_entry_next (kdk_args_next _) ?_
 unfold Builtin.«next»
 refine wpAny_bind (m := someArgs "next" 1 2 _) (wpAny_of_eq (a := [Value.ref it]) (by first | rfl | kernel_rfl!) ?_)
 dsimp only
 refine wpAny_bind (wpAny_specialOf (name := Str.ofString "__next__") hit.typeIs slot_listiter_next.lookup ?_)
 refine wpAny_ite_split (fun hab => absurd hab (by decide)) (fun _ => ?_)
 refine wpAny_bind (wpAny_callSpecial?_slot (name := Str.ofString "__next__") hit.typeIs slot_listiter_next
  (wpAny_call_entry slot_listiter_next hit.typeIs entry_listiter_next ?_ (args_listiter_next _)))
 show wpAny _ _ (field (.ref it) 0 >>= _) _ _ s
 refine wpAny_bind (wpAny_field hm.1 rfl (x := .ref l) rfl ?_)
 show wpAny _ _ (if (Value.ref l == Value.none) = true then _ else _) _ _ s
 rw [if_neg (show ¬ ((Value.ref l == Value.none) = true) from Bool.false_ne_true)]
 show wpAny _ _ (field (.ref it) 1 >>= _) _ _ s
 refine wpAny_bind (wpAny_field hm.1 rfl (x := .int k 0) rfl ?_)
 show wpAny _ _ (seqItems? (.ref l) >>= _) _ _ s
 refine wpAny_bind (wpAny_seqItems hol hdl ?_)
 have hx2 : vs.toArray[k]? = none := by simpa using hx
 simp only [Int.toNat_natCast, hx2]
 refine wpAny_bind (wpAny_rule (wpAny_bind (wpAny_setField hm.1 rfl (by simp) ?_)))
 show wpAny _ _ (newExc (.type "StopIteration") [] >>= _) _ _ _
 refine wpAny_bind ?_
 simp only [newExc, newTuple]
 refine wpAny_bind (wpAny_newObj_type ?_ (by exact Nat.zero_le _))
 refine wpAny_bind (m := firstArgMember _ _) (wpAny_of_eq (a := Value.none) (by first | rfl | (simp only [firstArgMember]; rfl)) ?_)
 refine wpAny_newObj_type ?_ (by size_fits)
 simp only [raiseNew]
 refine wpAny_bind (wpAny_handled ?_)
 rw [hh]
 refine wpAny_bind (wpAny_pure (wpAny_throw ?_))
 exact h _ _ _ _ (F.change (Heap.SameBut.update ..) hm.2.1 hm.2.2) (hg _ ▸ (show News h₀ L s.heap (pre ++ (it, liO l k) :: post) from e ▸ N).setIn a b (Heap.SameBut.update ..) (Heap.get?_update_self _ hm.1 rfl))
  ⟨fun b o hb => Heap.get?_push_of_some _ (Heap.get?_push_of_some _ hb), Heap.get?_none_of_le (by simp), _, .ref s.heap.objs.size, Heap.get?_push_size _ rfl, rfl, by simp [q1k]⟩
end
end
example : True := by
 k_with_none
 k_with "omega" => (first | assumption | exact Nat.le_refl _ | exact Nat.ne_of_lt (by assumption) | exact Nat.ne_of_gt (by assumption) | exact Nat.le_of_lt (by assumption) | lia)
 trivial
section
section
variable {prog : Program} {w : World} {A : Around} {s : Shared} {env : Env} {h₀ : Heap}
theorem fresh_ne {L : Addr} {m : Str -> Option Value} {news : List (Addr × Obj)} (F : Fr h₀ L s.heap m) (N : News h₀ L s.heap news) : h₀.get? s.heap.objs.size = none /\ L ≠ s.heap.objs.size /\ ∀ p ∈ news, p.1 ≠ s.heap.objs.size := by
 refine ⟨?_, Nat.ne_of_lt F.ns.lt, fun p hp => Nat.ne_of_lt (Heap.lt_size (N p hp).1)⟩
 cases e : h₀.get? s.heap.objs.size with
 | none => rfl
 | some o => exact absurd (Heap.lt_size (F.keep _ _ e)) (Nat.lt_irrefl _)
end
theorem qb5 (n : Nat) (h : n < 1000) : Builtin.Range.small (n : Int) 0 (-1) = true /\ Builtin.Range.rangeSize (n : Int) 0 (-1) = (n : Int) := by
 have e : Builtin.Range.rangeSize (n : Int) 0 (-1) = (n : Int) := by
  unfold Builtin.Range.rangeSize
  simp
  try omega
 refine ⟨?_, e⟩
 unfold Builtin.Range.small
 rw [e]
 unfold Builtin.Range.rangeFitsLong
 simp
 exact o30 h
noncomputable def qdz (x : Str) (c : Nat) : Bool := Txt.item x 0 == (⟨#[c]⟩ : Str)
noncomputable def qdv (x : Str) (c : Nat) : Bool := Txt.item x (-1) == (⟨#[c]⟩ : Str)
noncomputable def hit (c : Nat) (chs : List (Str × Str)) (i : Nat) : Bool := (Txt.isspace ⟨#[c]⟩ && qdz (chs.getD i ("", "")).1 c) || qdv (chs.getD (i - 1) ("", "")).2 c
noncomputable def q3g (c : Nat) (chs : List (Str × Str)) : Nat -> Option Nat
 | 0 => none
 | i + 1 => if hit c chs (i + 1) then some (i + 1) else q3g c chs i
noncomputable def q4c (chs : List (Str × Str)) : List Nat -> Option Nat
 | [] => none
 | c :: r => match q3g c chs (chs.length - 1) with
  | some i => some i
  | none => q4c chs r
theorem qdu {c i : Nat} {chs : List (Str × Str)} {fa pa fb pb : Str} (ha : chs[i]? = some (fa, pa)) (hb : chs[i - 1]? = some (fb, pb)) : hit c chs i = ((Txt.isspace ⟨#[c]⟩ && (Txt.item fa 0 == (⟨#[c]⟩ : Str))) || (Txt.item pb (-1) == (⟨#[c]⟩ : Str))) := by
 unfold hit qdz qdv
 rw [List.getD_eq_getElem?_getD, List.getD_eq_getElem?_getD, ha, hb]
 rfl
theorem q22 {c : Nat} {chs : List (Str × Str)} : ∀ {k : Nat}, (∀ i, 0 < i -> i <= k -> hit c chs i = false) -> q3g c chs k = none
 | 0, _ => rfl
 | k + 1, h => by
  unfold q3g
  rw [h (k + 1) (Nat.succ_pos _) (Nat.le_refl _), if_neg (by decide)]
  exact q22 fun i h1 h2 => h i h1 (Nat.le_succ_of_le h2)
theorem q3j {c : Nat} {chs : List (Str × Str)} {i : Nat} (h0 : 0 < i) (hi : hit c chs i = true) : ∀ {k : Nat}, i <= k -> (∀ j, i < j -> j <= k -> hit c chs j = false) -> q3g c chs k = some i
 | 0, h1, _ => absurd h0 (by exact fun h => absurd h (Nat.not_lt_of_le h1))
 | k + 1, h1, h => by
  unfold q3g
  by_cases e : i = k + 1
  ·subst e
   rw [hi, if_pos rfl]
  ·rw [h (k + 1) (by exact Nat.lt_of_le_of_ne h1 e) (Nat.le_refl _), if_neg (by decide)]
   exact q3j h0 hi (by exact o147 h1 e) fun j a b => h j a (Nat.le_succ_of_le b)
theorem q3f {chs : List (Str × Str)} : ∀ {l : List Nat}, (∀ c ∈ l, q3g c chs (chs.length - 1) = none) -> q4c chs l = none
 | [], _ => rfl
 | c :: r, h => by
  unfold q4c
  rw [h c (.head _)]
  exact q3f fun d hd => h d (.tail _ hd)
theorem q3a {chs : List (Str × Str)} {c i : Nat} (hc : q3g c chs (chs.length - 1) = some i) : ∀ {l : List Nat} {j : Nat}, l[j]? = some c -> (∀ j' d, j' < j -> l[j']? = some d -> q3g d chs (chs.length - 1) = none) -> q4c chs l = some i
 | [], j, h, _ => by simp at h
 | d :: r, 0, h, _ => by
  unfold q4c
  rw [show d = c by simpa using h, hc]
 | d :: r, j + 1, h, hn => by
  unfold q4c
  rw [hn 0 d (Nat.succ_pos _) rfl]
  exact q3a hc (j := j) (by simpa using h) fun j' e hj he => hn (j' + 1) e (Nat.succ_lt_succ hj) (by simpa using he)
section
variable {prog : Program} {w : World} {A : Around} {E : Value -> Shared -> Prop} {s : Shared} {h₀ : Heap} {L : Addr} {m : Str -> Option Value} {news : List (Addr × Obj)}
end
theorem q66 (cs : List (Str × Str)) (i : Nat) : csum (cs.take i) <= csum cs := by
 have h := (q2x cs i).2
 rw [<- List.map_take] at h
 exact h
theorem q7t {α : Type} (l : List α) : l = [] ∨ ∃ i v, l = i ++ [v] := by
 rcases List.eq_nil_or_concat l with h | ⟨i, v, h⟩
 ·exact .inl h
 ·exact .inr ⟨i, v, by rw [h, List.concat_eq_append]⟩
structure FS where
 (rows : List Str) (chs : List (Str × Str)) (sz : Int)
noncomputable def q1m (Wd : Int) (sp : Str) (st : FS) (c : Str × Str) : FS :=
 if st.sz + csum (st.chs ++ [c]) > Wd then
  match q4c (st.chs ++ [c]) sp.cps.toList with
  | some i => ⟨st.rows ++ [q0m ((st.chs ++ [c]).take i)], (st.chs ++ [c]).drop i, 0⟩
  | none => if st.sz > 0 then ⟨st.rows ++ [q0m st.chs], [c], 0⟩ else ⟨st.rows, st.chs ++ [c], st.sz⟩
 else ⟨st.rows, st.chs ++ [c], st.sz⟩
end
section
theorem q5l {vs : List Value} {ns : List Int} (h : IntsAre vs ns) : vs.length = ns.length := by
 induction h with
 | nil => rfl
 | cons n t h ih => simp only [List.length_cons, ih]
section
variable {prog : Program} {w : World} {A : Around} {E : Value -> Shared -> Prop} {s₁ : Shared} {h₀ : Heap} {L : Addr} {m : Str -> Option Value} {news : List (Addr × Obj)}
theorem qgk {d : Addr} {o o' : Obj} {l : List (Addr × Obj)} {g : Obj -> List (Addr × Obj)} (U : UpdF d o l g) : Upd d o o' l (g o') := by
 induction U with
 | head h => exact .head h
 | tail h _ ih => exact .tail h ih
theorem ext9 {D b : Addr} {acc add : List Value} {n n2 : Nat} {g : Obj -> List (Addr × Obj)} {Q : Value -> Shared -> Prop} (F : Fr h₀ L s₁.heap m) (N : News h₀ L s₁.heap news) (hb : (b, W.listOf add.toArray n2) ∈ news)
  (U : UpdF D (W.listOf acc.toArray n) news g) (h1 : acc.length < 1000) (h2 : add.length < 1000)
  (h : ∀ h' k, Fr h₀ L h' m -> News h₀ L h' (g (W.listOf (acc ++ add).toArray k)) -> Q .none { s₁ with heap := h' }) : wpAny (model prog w) A (call (.builtin "list.extend") [.ref D, .ref b]) Q E s₁ := by
 have hd : ¬(!acc.toArray.isEmpty && Builtin.List.listTooLong (acc.toArray.size + add.toArray.size)) = true := by
  have : Builtin.List.listTooLong (acc.toArray.size + add.toArray.size) = false := by
   unfold Builtin.List.listTooLong
   simp only [List.size_toArray, decide_eq_false_iff_not]
   have : sizeLine = 16777216 := rfl
   omega
  rw [this, Bool.and_false]; exact Bool.false_ne_true
 have hz : sizeLine = 16777216 := rfl
 cases add with
 | nil => exact kxn_extend F N hb rfl (qgk U) hd (by simp only [List.toList_toArray]; exact o127 h1 hz) (by simp only [List.size_toArray, List.length_nil]; exact o126 h1 hz) fun h' F' N' => h h' n F' (by rw [List.append_nil]; exact N')
 | cons x l => exact kl_extend F N hb rfl (by simp) (qgk U) hd (by simp only [List.toList_toArray]; exact o127 h1 hz) (by simp only [List.size_toArray, List.length_cons] at *; exact o214 h1 hz h2) fun h' F' N' => h h' (n + 1) F' N'
end
end
noncomputable abbrev strC (c : List Nat × List Nat) : Str × Str := (strL c.1, strL c.2)
noncomputable def fsAt (Wd : Int) (sp : Str) (sz : Int) (cs : List (List Nat × List Nat)) (i : Nat) : FS := ((cs.take i).map strC).foldl (q1m Wd sp) ⟨[], [], sz⟩
theorem q2w {Wd : Int} {sp : Str} {sz : Int} {cs : List (List Nat × List Nat)} {i : Nat} {c : List Nat × List Nat} (h : cs[i]? = some c) : fsAt Wd sp sz cs (i + 1) = q1m Wd sp (fsAt Wd sp sz cs i) (strC c) := by
 unfold fsAt
 rw [List.take_add_one, h]
 simp
theorem q3w (a b : List (Str × Str)) : csum (a ++ b) = csum a + csum b := by simp [csum, List.sum_append]
theorem qbo (a : List (Str × Str)) (i : Nat) : csum (a.drop i) <= csum a := by
 have h : csum a = csum (a.take i) + csum (a.drop i) := by rw [<- q3w, List.take_append_drop]
 have := q1j (a.take i)
 omega
theorem qa3 {Wd : Int} {sp : Str} {st : FS} {c : Str × Str} : (∀ d ∈ (q1m Wd sp st c).chs, d ∈ st.chs ++ [c]) /\ csum (q1m Wd sp st c).chs <= csum (st.chs ++ [c]) /\ ((q1m Wd sp st c).sz = st.sz ∨ (q1m Wd sp st c).sz = 0) := by
 unfold q1m
 split
 ·split
  ·exact ⟨fun d hd => List.mem_of_mem_drop hd, qbo _ _, .inr rfl⟩
  ·split
   ·refine ⟨fun d hd => List.mem_append_right _ hd, ?_, .inr rfl⟩
    rw [q3w]
    have := q1j st.chs
    show csum [c] <= csum st.chs + csum [c]
    exact o403 this
   ·exact ⟨fun d hd => hd, Int.le_refl _, .inl rfl⟩
 ·exact ⟨fun d hd => hd, Int.le_refl _, .inl rfl⟩
theorem q3z {Wd : Int} {sp : Str} {sz : Int} {cs : List (List Nat × List Nat)} : ∀ i, i <= cs.length -> (∀ d ∈ (fsAt Wd sp sz cs i).chs, ∃ c ∈ cs, d = strC c) /\ csum (fsAt Wd sp sz cs i).chs <= csum ((cs.take i).map strC) /\ ((fsAt Wd sp sz cs i).sz = sz ∨ (fsAt Wd sp sz cs i).sz = 0)
 | 0, _ => by
  refine ⟨fun d hd => ?_, ?_, .inl rfl⟩
  ·have : d ∈ ([] : List (Str × Str)) := by simpa [fsAt] using hd
   cases this
  ·simp [fsAt]
 | i + 1, hi => by
  (refine E_aa (q3z (Wd := Wd) (sp := sp) (sz := sz) (cs := cs) i (by exact Nat.le_of_lt hi)) fun h1 h2 h3 => ?_)
  have hc : cs[i]? = some cs[i] := List.getElem?_eq_getElem (by exact hi)
  rw [q2w hc]
  (refine E_aa (qa3 (Wd := Wd) (sp := sp) (st := fsAt Wd sp sz cs i) (c := strC cs[i])) fun g1 g2 g3 => ?_)
  refine ⟨fun d hd => ?_, ?_, ?_⟩
  ·rcases List.mem_append.mp (g1 d hd) with h | h
   ·exact h1 d h
   ·exact ⟨cs[i], List.getElem_mem _, List.mem_singleton.mp h⟩
  ·rw [List.take_add_one, hc, List.map_append, q3w]
   rw [q3w] at g2
   have e : csum ((some cs[i]).toList.map strC) = csum [strC cs[i]] := rfl
   rw [e]
   omega
  ·rcases g3 with g | g
   ·rw [g]; exact h3
   ·exact .inr g
theorem qbn (c : List Nat × List Nat) : q0l (strC c) = ((c.1.length + c.2.length : Nat) : Int) := by
 show (((strL c.1).length : Nat) : Int) + (((strL c.2).length : Nat) : Int) = _
 simp [Str.length]
theorem q4o (cs : List (List Nat × List Nat)) : csum (cs.map strC) = ((q02 cs).length : Int) := by
 induction cs with
 | nil => rfl
 | cons c r ih =>
  have e : csum ((c :: r).map strC) = q0l (strC c) + csum (r.map strC) := by simp [csum, q0l]
  rw [e, ih, qbn]
  obtain ⟨w, p⟩ := c
  rw [q19]
  simp only [List.length_append]
  omega
theorem q96 {cs : List (List Nat × List Nat)} : ∀ {i : Nat} {c : List Nat × List Nat}, cs[i]? = some c -> (q1g cs)[2 * i]? = some (strL c.1) /\ (q1g cs)[2 * i + 1]? = some (strL c.2) := by
 induction cs with
 | nil => intro i c h; simp at h
 | cons d r ih =>
  intro i c h
  obtain ⟨w, p⟩ := d
  cases i with
  | zero =>
   have e : (w, p) = c := by simpa using h
   subst e
   exact ⟨rfl, rfl⟩
  | succ i =>
   have := ih (i := i) (c := c) (by simpa using h)
   rw [show 2 * (i + 1) = 2 * i + 1 + 1 by exact Nat.sub_zero _, show 2 * i + 1 + 1 + 1 = (2 * i + 1) + 1 + 1 by exact Nat.add_zero _]
   simpa [q1g] using this
theorem q2v {cs : List (List Nat × List Nat)} {c : List Nat × List Nat} (h : c ∈ cs) : (∀ a ∈ c.1, a ∈ q02 cs) /\ (∀ a ∈ c.2, a ∈ q02 cs) /\ c.1.length + c.2.length <= (q02 cs).length := by
 induction cs with
 | nil => cases h
 | cons d r ih =>
  obtain ⟨w, p⟩ := d
  rw [q19]
  rcases List.mem_cons.mp h with e | e
  ·subst e
   refine ⟨fun a ha => List.mem_append_left _ ha, fun a ha => List.mem_append_right _ (List.mem_append_left _ ha), ?_⟩
   simp only [List.length_append]
   exact o257
  ·(refine E_aa (ih e) fun h1 h2 h3 => ?_)
   refine ⟨fun a ha => List.mem_append_right _ (List.mem_append_right _ (h1 a ha)), fun a ha => List.mem_append_right _ (List.mem_append_right _ (h2 a ha)), ?_⟩
   simp only [List.length_append]
   exact o278 h3
theorem q23 {l : List Nat} (h : ∀ a ∈ l, a < 128) : PyData.strOk (strL l) = true := by
 unfold PyData.strOk
 simp only [List.all_toArray, List.all_eq_true, decide_eq_true_eq]
 intro a ha
 exact Nat.lt_trans (h a ha) (by decide)
example : True := by
 k_with_none
 trivial
section
section
variable {prog : Program} {w : World} {A : Around} {s : Shared} {env : Env} {h₀ : Heap}
theorem qea {E : Value -> Shared -> Prop} {Q : Flow -> Shared -> Prop} {x : Str} {px : Pos} {body : List Stmt} {I : Addr} {n : Nat} {P : Nat -> Value -> Prop} {St : Nat -> Heap -> Prop} {m : Str -> Option Value} {fp : List Addr} {kp led : List (Addr × Obj)} {CI : Obj -> Prop}
  (J : Nat -> Shared -> (Str -> Option Value) -> List (Addr × Obj) -> Prop) (W : Walks prog w A I fp [I] n P St) (hob : ∀ i h, St i h -> ∃ o, h.get? I = some o /\ CI o)
  (hfp : ∀ b ∈ fp, b = I ∨ ∃ o, (b, o) ∈ kp) (hIn : h₀.get? I = none) (hIL : env.locals ≠ I) (hnI : ∀ p ∈ kp ++ led, p.1 ≠ I)
  (hx : env.kindOf x = some .local) (hp : (env.scope.kind == .class || (env.scope.kind == .module && env.locals != env.globals)) = false)
  (hst : St 0 s.heap) (F : Fr h₀ env.locals s.heap m) (N : News h₀ env.locals s.heap (kp ++ led)) (h0 : J 0 s m led)
  (hmono : ∀ i s₁ h tk m led, J i s₁ m led -> J i { s₁ with heap := h, toks := tk } m led)
  (turn : ∀ i v s₁ m₁ led₁ o, i < n -> P i v -> CI o -> J i s₁ m₁ led₁ -> (∀ p ∈ kp ++ led₁, p.1 ≠ I) -> Fr h₀ env.locals s₁.heap (fun y => if y = x then some v else m₁ y) -> News h₀ env.locals s₁.heap ((I, o) :: (kp ++ led₁)) →
   wpAny (model prog w) A (execs body env) (fun f s₃ => match f with
    | .ret v => Q (.ret v) s₃
    | .brk => Q .next s₃
    | _ => ∃ m₃ led₃, Fr h₀ env.locals s₃.heap m₃ /\ News h₀ env.locals s₃.heap ((I, o) :: (kp ++ led₃)) /\ (∀ p ∈ led₃, p.1 ≠ I) /\ J (i + 1) s₃ m₃ led₃) E s₁)
  (done : ∀ s₁ m₁ led₁, J n s₁ m₁ led₁ -> Fr h₀ env.locals s₁.heap m₁ -> News h₀ env.locals s₁.heap (kp ++ led₁) -> Q .next s₁)
  (hE : PassesOwn (model prog w) A env E) :
  codeAny (model prog w) A (.forLoop (.Name x px) (.ref I) body [] env) (fun r s' => match r with | .ok f => Q f s' | .error e => cameBackBy (model prog w) A env E e s') s := by
 have old : ∀ b o, h₀.get? b = some o -> b ≠ I := fun b o e hb => by rw [hb, hIn] at e; cases e
 have next : ∀ (h h₁ : Heap) m' led', (∀ p ∈ kp ++ led', p.1 ≠ I) -> (∀ b o, b ∉ [I] -> h.get? b = some o -> h₁.get? b = some o) -> Fr h₀ env.locals h m' -> News h₀ env.locals h (kp ++ led') -> Fr h₀ env.locals h₁ m' /\ News h₀ env.locals h₁ (kp ++ led') := by
  intro h h₁ m' led' hn' hk F' N'
  have hk' : ∀ b o, b ≠ I -> h.get? b = some o -> h₁.get? b = some o := fun b o hb e => hk b o (by simpa using hb) e
  exact ⟨⟨F'.ns.at' fun o e => hk' _ o hIL e, fun b o e => hk' b o (old b o e) (F'.keep b o e), F'.above⟩, fun p hp => ⟨hk' _ _ (hn' p hp) (N' p hp).1, (N' p hp).2⟩⟩
 refine codeAny_forLoop_any
  (fun k s' => ∃ m' led' i, St i s'.heap /\ Fr h₀ env.locals s'.heap m' /\ News h₀ env.locals s'.heap (kp ++ led') /\ (∀ p ∈ kp ++ led', p.1 ≠ I) /\ J i s' m' led' /\ i <= n /\ k = n + 1 - i) ?_ (n + 1)
  ⟨m, led, 0, hst, F, N, hnI, h0, Nat.zero_le _, rfl⟩
 (intro k; intro s'; intro z1y; refine q7c z1y fun m' led' i hst' F' N' hn' hJ hi z2z => ?_; (try clear z1y); subst z2z)
 by_cases hlt : i < n
 ·refine W.item i _ _ _ hlt hst' fun v h₁ tk₁ hP hst₁ hk₁ => ?_
  (refine E_a (next _ h₁ _ _ hn' hk₁ F' N') fun F₁ N₁ => ?_)
  refine wpAny_of_eq (a := ()) (by rfl) ?_
  refine wpAny_assign_Name (wpAny_storeName_local (s := { s' with heap := h₁, toks := tk₁ }) hx F₁.ns (fun h₂ hn₂ hs₂ => ?_) hp)
  have F₂ := F₁.set hn₂ hs₂
  have N₂ := N₁.set hs₂
  have keepI : ∀ o, h₁.get? I = some o -> h₂.get? I = some o := fun o e => (hs₂.2 I fun q => hIL q.symm).trans e
  (refine E_ea (hob _ _ hst₁) fun o ho₁ hCI => ?_)
  have ho := keepI o ho₁
  have N₃ : News h₀ env.locals h₂ ((I, o) :: (kp ++ led')) := fun p hp => by
   rcases List.mem_cons.mp hp with e | e
   ·rw [e]; exact ⟨ho, fun q => hIL q.symm, hIn⟩
   ·exact N₂ p e
  refine wpAny_mono (wpAny_passesOwn hE (turn i v _ m' led' o hlt hP hCI (hmono i s' h₂ (tk₁ + 1) _ _ hJ) hn' F₂ N₃)) (fun f s₃ h₃ => ?_) fun _ _ e => e
  have fin : (∃ m₃ led₃, Fr h₀ env.locals s₃.heap m₃ /\ News h₀ env.locals s₃.heap ((I, o) :: (kp ++ led₃)) /\ (∀ p ∈ led₃, p.1 ≠ I) /\ J (i + 1) s₃ m₃ led₃) →
    ∃ k', k' < n + 1 - i /\ ∃ m' led' i, St i s₃.heap /\ Fr h₀ env.locals s₃.heap m' /\ News h₀ env.locals s₃.heap (kp ++ led') /\ (∀ p ∈ kp ++ led', p.1 ≠ I) /\ J i s₃ m' led' /\ i <= n /\ k' = n + 1 - i := by
   (intro z1y; refine q10 z1y fun m₃ led₃ F₄ N₄ ho₄ hJ₄ => ?_; (try clear z1y))
   refine ⟨n + 1 - (i + 1), by exact o157 hlt, m₃, led₃, i + 1, ?_, F₄, fun p hp => N₄ p (.tail _ hp), ?_, hJ₄, hlt, rfl⟩
   ·refine W.frame _ _ _ hst₁ fun b hb o' e => ?_
    rcases hfp b hb with e1 | ⟨o2, ho2⟩
    ·subst e1
     rw [ho₁] at e
     rw [<- e]
     exact (N₄ _ (.head _)).1
    ·have e3 := (N₁ _ (List.mem_append_left _ ho2)).1
     rw [show ((b, o2) : Addr × Obj).1 = b from rfl] at e3
     rw [e3] at e
     rw [<- e]
     exact (N₄ _ (.tail _ (List.mem_append_left _ ho2))).1
   ·intro p hp
    rcases List.mem_append.mp hp with hp | hp
    ·exact hn' p (List.mem_append_left _ hp)
    ·exact ho₄ p hp
  cases f with
  | ret v => exact h₃
  | brk => exact h₃
  | next => exact fin h₃
  | cont => exact fin h₃
 ·have hin : i = n := by exact o150 hi hlt
  subst hin
  refine W.done _ _ _ hst' fun h₁ tk₁ hk₁ => ?_
  (refine E_a (next _ h₁ _ _ hn' hk₁ F' N') fun F₁ N₁ => ?_)
  exact wpAny_passesOwn hE (wpAny_execs_nil (done _ m' led' (hmono i s' h₁ tk₁ _ _ hJ) F₁ N₁))
end
end
section
noncomputable def qaf (o : Obj) : Prop := ∀ vs t q, o.data = .fields vs -> vs[1]? ≠ some (.str q t)
theorem q8z {a b c : Int} : qaf { cls := .type "range_iterator", dict := none, data := .fields #[rawInt a, rawInt b, rawInt c], slots := #[] } := by
 intro vs t q h e
 cases h
 cases e
theorem qgg {h₀ h : Heap} {L : Addr} {l : List (Addr × Obj)} {a b : Addr} {oa ob : Obj} (N : News h₀ L h l) (h1 : (a, oa) ∈ l) (h2 : (b, ob) ∈ l) (hne : oa ≠ ob) : @Ne Nat a b := by
 intro e
 have e1 := (N _ h1).1
 have e2 := (N _ h2).1
 rw [show ((a, oa) : Addr × Obj).1 = ((b, ob) : Addr × Obj).1 from e, e2] at e1
 exact hne (Option.some.inj e1).symm
section
variable {prog : Program} {w : World} {A : Around} {s : Shared} {env : Env} {h₀ : Heap}
theorem for_rngM {E : Value -> Shared -> Prop} {Q : Flow -> Shared -> Prop} {x : Str} {px : Pos} {r : Addr} {a b c : Int} {t0 u0 v0 : Tok} {n : Nat} {body : List Stmt} {m : Str -> Option Value} {led : List (Addr × Obj)}
  (J : Nat -> Shared -> (Str -> Option Value) -> List (Addr × Obj) -> Prop) (hh : A.handled = none) (hr : IsRange s.heap r a b c t0 u0 v0) (hsm : Builtin.Range.small a b c = true) (hn : Builtin.Range.rangeSize a b c = (n : Int))
  (hx : env.kindOf x = some .local) (hp : (env.scope.kind == .class || (env.scope.kind == .module && env.locals != env.globals)) = false)
  (F : Fr h₀ env.locals s.heap m) (N : News h₀ env.locals s.heap led) (h0 : J 0 s m led)
  (hmono : ∀ i s₁ h tk m led, J i s₁ m led -> J i { s₁ with heap := h, toks := tk } m led)
  (turn : ∀ I i ti s₁ m₁ led₁ o, i < n -> (o.cls = .type "range_iterator" /\ qaf o) -> J i s₁ m₁ led₁ -> (∀ p ∈ led₁, @Ne Nat p.1 I) -> Fr h₀ env.locals s₁.heap (fun y => if y = x then some (.int (a + i * c) ti) else m₁ y) -> News h₀ env.locals s₁.heap ((I, o) :: led₁) →
   wpAny (model prog w) A (execs body env) (fun f s₃ => match f with
    | .ret v => Q (.ret v) s₃
    | .brk => Q .next s₃
    | _ => ∃ m₃ led₃, Fr h₀ env.locals s₃.heap m₃ /\ News h₀ env.locals s₃.heap ((I, o) :: led₃) /\ (∀ p ∈ led₃, @Ne Nat p.1 I) /\ J (i + 1) s₃ m₃ led₃) E s₁)
  (done : ∀ s₁ m₁ led₁, J n s₁ m₁ led₁ -> Fr h₀ env.locals s₁.heap m₁ -> News h₀ env.locals s₁.heap led₁ -> Q .next s₁)
  (hE : PassesOwn (model prog w) A env E) :
  wpAny (model prog w) A (pyIter (.ref r)) (fun it s₂ => codeAny (model prog w) A (.forLoop (.Name x px) it body [] env) (fun r s' => match r with | .ok f => Q f s' | .error e => cameBackBy (model prog w) A env E e s') s₂) E s := by
 (refine E_aa (fresh_ne F N) fun i1 i2 i3 => ?_)
 refine wpAny_pyIter_range hr hsm ?_
 refine qea (kp := []) (CI := fun o => o.cls = .type "range_iterator" /\ qaf o) J (Walks.range hh s.heap.objs.size a c n) (fun i h st => ⟨_, st, rfl, q8z⟩) (fun b hb => .inl (by simpa using hb)) i1 i2 i3 hx hp ?_ (F.push _)
  (fun p hp => ⟨Heap.get?_push_of_some _ (N p hp).1, (N p hp).2⟩) (hmono 0 s _ s.toks _ _ h0) hmono (fun i v s₁ m₁ led₁ o hi hP hC hJ hn F₁ N₁ => ?_) (fun s₁ m₁ led₁ hJ F₁ N₁ => ?_) hE
 ·show IsRangeIter _ _ _ _ _
  rw [hn]
  simpa using Heap.get?_push_size _ rfl
 ·(refine E_e hP fun tc z1z => ?_; (try clear hP); subst z1z)
  exact turn _ i tc s₁ m₁ led₁ o hi hC hJ hn F₁ N₁
 ·exact done s₁ m₁ led₁ hJ F₁ N₁
end
end
noncomputable def dig1 (x : Int) : List Int := if digs 6 x = [] then [0] else digs 6 x
noncomputable def q0w (x : Int) : List Int := ((dig1 x).drop 1).reverse.map (· + 64) ++ [(dig1 x).headD 0]
noncomputable def q01 (ns : List Int) : List Int := ns.flatMap q0w
theorem qa9 (x : Int) : (digs 6 x = [] /\ q0w x = [0]) ∨ (∃ a, digs 6 x = [a] /\ q0w x = [a]) ∨ (∃ a b, digs 6 x = [a, b] /\ q0w x = [b + 64, a]) ∨ ∃ a b c, digs 6 x = [a, b, c] /\ q0w x = [c + 64, b + 64, a] := by
 unfold q0w dig1
 unfold digs
 split
 ·exact .inl ⟨rfl, rfl⟩
 split
 ·exact .inr (.inl ⟨_, rfl, rfl⟩)
 split
 ·exact .inr (.inr (.inl ⟨_, _, rfl, rfl⟩))
 ·exact .inr (.inr (.inr ⟨_, _, _, rfl, rfl⟩))
theorem qd6 (x : Int) : (digs 6 x).length <= 3 := by
 unfold digs
 split
 ·simp
 split
 ·simp
 split <;> simp
theorem q2b (ns : List Int) : (q01 ns).length <= 3 * ns.length := by
 unfold q01
 induction ns with
 | nil => exact Nat.le_refl _
 | cons x ns ih =>
  rw [List.flatMap_cons, List.length_append, List.length_cons]
  have : (q0w x).length <= 3 := by
   rcases qa9 x with ⟨_, e⟩ | ⟨_, _, e⟩ | ⟨_, _, _, e⟩ | ⟨_, _, _, _, e⟩ <;> rw [e] <;> simp
  omega
theorem qgt {vs : List Value} (h : IntsAre vs []) : vs = [] := by cases h; rfl
theorem qb3 {vs : List Value} {a : Int} {ns : List Int} (h : IntsAre vs (a :: ns)) : ∃ t ws, vs = .int a t :: ws /\ IntsAre ws ns := by cases h with | cons _ t h => exact ⟨t, _, rfl, h⟩
section
theorem q9k {f : Nat -> Int} {vs ys : List Value} (h : Paired (fun v r => ∃ c tc t', v = Value.str ⟨#[c]⟩ tc /\ r = Value.int (f c) t') vs ys) : ∀ cs : List Nat, vs.length = cs.length -> (∀ (j : Nat) (v : Value), vs[j]? = some v -> ∃ c tc, cs[j]? = some c /\ v = Value.str ⟨#[c]⟩ tc) -> IntsAre ys (cs.map f) := by
 induction h with
 | nil =>
  intro cs hl _
  cases cs with
  | nil => exact .nil
  | cons => cases hl
 | cons h1 _ ih =>
  intro cs hl hc
  cases cs with
  | nil => cases hl
  | cons c cs =>
   (refine q2u h1 fun c1 tc t' z1z z2z => ?_; (try clear h1); subst z1z; subst z2z)
   (refine q07 (hc 0 _ rfl) fun c2 tc2 e1 e2 => ?_)
   have e3 : c = c2 := Option.some.inj e1
   have e4 : c1 = c2 := by
    have := (Value.str.inj e2).1
    injection this with h
    simpa using h
   rw [e4, <- e3]
   exact .cons _ t' (ih cs (by simpa using hl) fun j v hj => by simpa using hc (j + 1) v (by simpa using hj))
section
variable {prog : Program} {w : World} {A : Around} {E : Value -> Shared -> Prop} {s₁ : Shared} {h₀ : Heap} {L : Addr} {m : Str -> Option Value} {news : List (Addr × Obj)}
theorem qcf {env : Env} {elt : Expr} {x : Str} {scope : Scope} {Q : Value -> Shared -> Prop} {sp : Str} {tsp : Tok} (f : Nat -> Int)
  (hh : A.handled = none) (F : Fr h₀ L s₁.heap m) (N : News h₀ L s₁.heap news) (hsz : sp.cps.size <= sizeLine)
  (g2 : ∀ C c tc s₂ m₂ E', c ∈ sp.cps.toList -> s₂.heap.Ns (compEnv scope C env).locals m₂ -> m₂ x = some (.str ⟨#[c]⟩ tc) -> (∀ b o, s₁.heap.get? b = some o -> s₂.heap.get? b = some o) -> wpAny (model prog w) A (eval elt (compEnv scope C env)) (fun r s₃ => (∃ t', r = .int (f c) t') /\ Keeps s₂ s₃) E' s₂)
  (g3 : ∀ D ys h' tk k, Fr h₀ L h' m -> News h₀ L h' ((D, W.listOf ys.toArray k) :: news) -> (∀ p ∈ news, @Ne Nat p.1 D) -> IntsAre ys (sp.cps.toList.map f) -> Q (.ref D) { s₁ with heap := h', toks := tk }) :
  wpAny (model prog w) A (pyIter (.str sp tsp)) (CompPost prog w A env scope x [] elt Q) E s₁ := by
 have fin : ∀ D h' tk (ys : Array Value) (vs' : List Value), (∀ b o, s₁.heap.get? b = some o -> h'.get? b = some o) -> s₁.heap.get? D = none -> h'.PlainList D ys -> vs'.length = sp.cps.size -> (∀ (j : Nat) (v : Value), vs'[j]? = some v -> SignAt sp j v) →
   Paired (fun v r => ∃ c tc t', v = Value.str ⟨#[c]⟩ tc /\ r = Value.int (f c) t') vs' ys.toList -> Q (.ref D) { s₁ with heap := h', toks := tk } := by
  intro D h' tk ys vs' up hnew hplD hlen hP hF
  (refine E_e hplD fun k hD => ?_; (try clear hplD))
  have hnD : ∀ p ∈ news, @Ne Nat p.1 D := fun p hp e => by
   have h1 := (N p hp).1
   rw [show p.1 = D from e, hnew] at h1; cases h1
  refine g3 D ys.toList h' tk k (F.keeps up) (fun p hp => ?_) hnD (q9k hF sp.cps.toList (by simpa using hlen) fun j v hj => ?_)
  ·rcases List.mem_cons.mp hp with e | hp
   ·rw [e]
    refine ⟨by rw [Array.toArray_toList]; exact hD, fun e2 => ?_, ?_⟩
    ·(refine q2u (F.ns) fun o _ _ ho _ => ?_)
     rw [show D = L from e2] at hnew
     rw [hnew] at ho; cases ho
    ·cases e3 : h₀.get? D with
     | none => rfl
     | some o' =>
      have := F.keep _ _ e3
      rw [hnew] at this; cases this
   ·exact ⟨up _ _ (N p hp).1, (N p hp).2⟩
  ·(refine q07 (hP j v hj) fun c tc hc e => ?_)
   exact ⟨c, tc, by simpa using hc, e⟩
 cases ha : sp.cps.all (· < 128)
 ·refine wpAny_pyIter_wide ha ?_
  refine ⟨fun _ => true, fun v r => ∃ c tc t', v = .str ⟨#[c]⟩ tc /\ r = .int (f c) t', s₁.heap.objs.size, [s₁.heap.objs.size], [s₁.heap.objs.size], sp.cps.size, _, _, rfl, Walks.strWide hh s₁.heap.objs.size sp tsp, hsz, ⟨_, Heap.get?_push_size _ rfl, rfl, rfl⟩, ?_, ⟨?_, ?_⟩, ?_⟩
  ·intro b hb
   rw [List.mem_singleton.mp hb]
   show s₁.heap.objs.size < (s₁.heap.push _).objs.size
   rw [Heap.size_push]; exact Nat.lt_succ_self _
  ·intro C i v s₃ m₃ E' hP hn hm _ htk
   exact wpAny_pure ⟨rfl, _, _, rfl, fun b o e => e⟩
  ·intro C i v s₃ m₃ E' hP hp hn hm hk htk
   (refine q07 hP fun c tc hc z1z => ?_; (try clear hP); subst z1z)
   refine wpAny_mono (g2 C c tc s₃ m₃ E' (by simpa using List.mem_of_getElem? (l := sp.cps.toList) (i := i) (by simpa using hc)) hn hm fun b o e => hk b o (not_iter_of_old e) (Heap.get?_push_of_some _ e)) (fun r s₄ h₄ => ⟨?_, h₄.2⟩) fun _ _ e => e
   (refine E_e (h₄.1) fun t' z1z => ?_; subst z1z)
   exact ⟨c, tc, t', rfl, rfl⟩
  ·intro D h' tk ys vs' hnew hlD hplD hlen hP hF hk
   exact fin D h' tk ys vs' (fun b o e => hk b o (not_iter_of_old e) (Heap.get?_push_of_some _ e)) (by
    cases e : s₁.heap.get? D with
    | none => rfl
    | some o => rw [Heap.get?_push_of_some _ e] at hnew; cases hnew) hplD hlen hP (by rw [List.filter_eq_self.mpr (fun _ _ => rfl)] at hF; exact hF)
 ·refine wpAny_pyIter_ascii ha ?_
  refine ⟨fun _ => true, fun v r => ∃ c tc t', v = .str ⟨#[c]⟩ tc /\ r = .int (f c) t', s₁.heap.objs.size, [s₁.heap.objs.size], [s₁.heap.objs.size], sp.cps.size, _, _, rfl, Walks.strAscii hh s₁.heap.objs.size sp tsp, hsz, ⟨_, Heap.get?_push_size _ rfl, rfl, rfl⟩, ?_, ⟨?_, ?_⟩, ?_⟩
  ·intro b hb
   rw [List.mem_singleton.mp hb]
   show s₁.heap.objs.size < (s₁.heap.push _).objs.size
   rw [Heap.size_push]; exact Nat.lt_succ_self _
  ·intro C i v s₃ m₃ E' hP hn hm _ htk
   exact wpAny_pure ⟨rfl, _, _, rfl, fun b o e => e⟩
  ·intro C i v s₃ m₃ E' hP hp hn hm hk htk
   (refine q07 hP fun c tc hc z1z => ?_; (try clear hP); subst z1z)
   refine wpAny_mono (g2 C c tc s₃ m₃ E' (by simpa using List.mem_of_getElem? (l := sp.cps.toList) (i := i) (by simpa using hc)) hn hm fun b o e => hk b o (not_iter_of_old e) (Heap.get?_push_of_some _ e)) (fun r s₄ h₄ => ⟨?_, h₄.2⟩) fun _ _ e => e
   (refine E_e (h₄.1) fun t' z1z => ?_; subst z1z)
   exact ⟨c, tc, t', rfl, rfl⟩
  ·intro D h' tk ys vs' hnew hlD hplD hlen hP hF hk
   exact fin D h' tk ys vs' (fun b o e => hk b o (not_iter_of_old e) (Heap.get?_push_of_some _ e)) (by
    cases e : s₁.heap.get? D with
    | none => rfl
    | some o => rw [Heap.get?_push_of_some _ e] at hnew; cases hnew) hplD hlen hP (by rw [List.filter_eq_self.mpr (fun _ _ => rfl)] at hF; exact hF)
end
section
variable {M : Model} {A : Around} {E : Value -> Shared -> Prop} {s : Shared} {K : Frag} {h₀ : Heap} {mg mb : Str -> Option Value} {p : Program} {loose : List Str} {x : Str} {pos : Pos} {v : Value} {Q : Value -> Shared -> Prop} {scope : Scope} {C : Addr} {env : Env}
theorem qf1 (hg : env.globals = mainGlobals) (hb : env.builtins = builtinsNs) (hkeep : ∀ b o, h₀.get? b = some o -> s.heap.get? b = some o) (X : K.In h₀) (T : TopRead p loose mg mb h₀) (e : nsIn K mainGlobals x = some none) (hv : bootBuiltins x = some v) (hn : x ≠ "__name__") (h : Q v s)
  (hk : scope.kind = .function := by rfl) (hx : (compEnv scope C env).kindOf x = some .globalImplicit := by rfl) (hd : (x == ("__debug__" : Str)) = false := by decide) :
  wpAny M A (eval (.Name x pos) (compEnv scope C env)) Q E s :=
 Name_function_global hk hx (loadGlobal_builtin (env := compEnv scope C env) (by show s.heap.Ns env.globals _; rw [hg]; exact T.g.keeps hkeep) (mg_none_of X T.g e) (by show s.heap.Ns env.builtins _; rw [hb]; exact T.b.keeps hkeep) ((T.builtins x hn).trans hv) h) hd
end
end
end
namespace H
section
open PySem PySem.W PyProof.Rows PySem.Calls
section
noncomputable abbrev Led := List (Addr × Obj)
noncomputable abbrev Fm := Str -> Option Value
structure Cx where
 w : World
 dp : Nat
 un : Nat
 gd : Option (List Code)
 cn : Str
 cs : Scope
 L : Addr
 a : Addr
 ccd : Value
 cl : List (Str × Addr)
 outer : List Env
 h₀ : Heap
 env : Env
 gp : Array GenState -> Drawn -> OsState -> Prop
noncomputable abbrev Cx.M (c : Cx) : Model := model Challenge.rw_un0030_01.row.prog c.w
noncomputable abbrev Cx.A (c : Cx) : Around := ktrTop c.dp c.un c.gd c.cn c.cs c.L c.a c.ccd c.cl c.outer
noncomputable abbrev Cx.denv (c : Cx) : Env := envX c.cn c.cs c.L c.a c.ccd c.cl
noncomputable def Cx.One (c : Cx) : Prop := ∃ g d o, c.gp = fun g' d' o' => g' = g /\ d' = d /\ o' = o
structure Cx.OkG (c : Cx) : Prop where
 B : ∃ A₀ base, Below A₀ base c.outer c.h₀ /\ CodeHd base 72 68 /\ CodeHd base 65 61
 X : (Mine.hd.heap_1 c.w.params).In c.h₀
 T : ∃ p loose mean mg mb, Top p loose mean mg mb c.h₀
 K : c.cs.kind = .function
 G : c.env.scope.kind = .function /\ c.env.globals = mainGlobals /\ c.env.builtins = builtinsNs
structure Cx.Ok (c : Cx) : Prop extends Cx.OkG c where
 E : c.env = c.denv
def eV : Value -> Value
 | .int i _ => .int i 0
 | .str x _ => .str x 0
 | .float b _ => .float b 0
 | .bytes b _ => .bytes b 0
 | v => v
noncomputable def eD (b : Bool) : Data -> Data
 | .seq xs n => .seq (xs.map eV) (bif b then n else 0)
 | .cell v => .cell (v.map eV)
 | d => d
noncomputable def tokC : Value -> Bool
 | .type t => t == "list" || t == "tuple" || t == "cell"
 | .ref _ => true
 | _ => false
noncomputable def isTp : Value -> Bool
 | .type t => t == "tuple"
 | _ => false
noncomputable def eO (o : Obj) : Obj := bif tokC o.cls then { o with data := eD (isTp o.cls) o.data } else o
noncomputable abbrev eP (p : Addr × Obj) : Addr × Obj := (p.1, eO p.2)
theorem q0a {v : Value} {i : Int} (h : eV v = .int i 0) : ∃ t, v = .int i t := by
 cases v <;> simp only [eV, reduceCtorEq, Value.int.injEq, and_true] at h
 exact ⟨_, by rw [h]⟩
theorem q0i {v : Value} {i : Str} (h : eV v = .str i 0) : ∃ t, v = .str i t := by
 cases v <;> simp only [eV, reduceCtorEq, Value.str.injEq, and_true] at h
 exact ⟨_, by rw [h]⟩
theorem q42 {v : Value} {b : Bool} (h : eV v = .bool b) : v = .bool b := by
 cases v <;> simp only [eV, reduceCtorEq] at h ⊢
 exact h
theorem q04 {v : Value} {a : Addr} (h : eV v = .ref a) : v = .ref a := by
 cases v <;> simp only [eV, reduceCtorEq] at h ⊢
 exact h
theorem q0t {v : Value} {a : String} (h : eV v = .builtin a) : v = .builtin a := by
 cases v <;> simp only [eV, reduceCtorEq] at h ⊢
 exact h
theorem q44 {v : Value} {a : String} (h : eV v = .type a) : v = .type a := by
 cases v <;> simp only [eV, reduceCtorEq] at h ⊢
 exact h
noncomputable def SS (c : Cx) (m : Fm) (led : Led) (s : Shared) : Prop :=
 ∃ m' led', Fr c.h₀ c.L s.heap m' /\ (∀ x, (m' x).map eV = m x) /\ News c.h₀ c.L s.heap led' /\ led'.map eP = led /\ (led.map (·.1)).Nodup /\ c.gp s.gens s.drawn s.os
noncomputable def updM (m : Fm) (x : Str) (v : Value) : Fm := fun y => if y = x then some v else m y
section
variable {c : Cx} {m : Fm} {led : Led}
noncomputable def Ev (c : Cx) (m : Fm) (led : Led) (e : Expr) (v : Value) : Prop :=
 ∀ (Q E : Value -> Shared -> Prop) s, SS c m led s -> (∀ v' s', eV v' = v -> SS c m led s' -> Q v' s') -> wpAny c.M c.A (eval e c.env) Q E s
noncomputable def EvG (c : Cx) (m : Fm) (led : Led) (e : Expr) (R : Value -> Led -> Prop) : Prop :=
 ∀ (Q E : Value -> Shared -> Prop) s, SS c m led s -> (∀ v' led' s', R (eV v') led' -> SS c m led' s' -> Q v' s') -> wpAny c.M c.A (eval e c.env) Q E s
noncomputable def Tb (c : Cx) (m : Fm) (led : Led) (e : Expr) (b : Bool) : Prop :=
 ∀ (Q : Bool -> Shared -> Prop) (E : Value -> Shared -> Prop) s, SS c m led s -> (∀ s', SS c m led s' -> Q b s') -> wpAny c.M c.A (PySem.isTrue e c.env (eval e c.env)) Q E s
noncomputable def TbA (c : Cx) (m : Fm) (led : Led) (es : List Expr) (b : Bool) : Prop :=
 ∀ pos whole (Q : Bool -> Shared -> Prop) (E : Value -> Shared -> Prop) s, SS c m led s -> (∀ s', SS c m led s' -> Q b s') -> wpAny c.M c.A (PySem.isTrue (.BoolOp .And es pos) c.env whole) Q E s
noncomputable def EvA (c : Cx) (m : Fm) (led : Led) (es : List Expr) (vs : List Value) : Prop :=
 ∀ pos (Q : List Value -> Shared -> Prop) (E : Value -> Shared -> Prop) s, SS c m led s -> (∀ vs' s', vs'.map eV = vs -> SS c m led s' -> Q vs' s') -> wpAny c.M c.A (spliced (backTo pos (starEach es c.env))) Q E s
noncomputable def Bd (c : Cx) (m : Fm) (led : Led) (ss : List Stmt) (P : Flow -> Shared -> Prop) : Prop :=
 ∀ (Q : Flow -> Shared -> Prop) E s, PassesOwn c.M c.A c.env E -> SS c m led s -> (∀ f s', P f s' -> Q f s') -> wpAny c.M c.A (execs ss c.env) Q E s
noncomputable def Cl (c : Cx) (m : Fm) (led : Led) (f : Value) (vs : List Value) (R : Value -> Led -> Prop) : Prop :=
 ∀ (vs' : List Value) (Q E : Value -> Shared -> Prop) s, SS c m led s -> vs'.map eV = vs -> (∀ v' led' s', R (eV v') led' -> SS c m led' s' -> Q v' s') -> wpAny c.M c.A (call f vs') Q E s
noncomputable def ClK (c : Cx) (m : Fm) (led : Led) (f : Value) (vs : List Value) (R : Value -> Led -> Prop) : Prop :=
 ∀ (vs' : List Value) (Q E : Value -> Shared -> Prop) s, SS c m led s -> vs'.map eV = vs -> (∀ v' led' s', R (eV v') led' -> SS c m led' s' -> Q v' s') -> codeAny c.M c.A (.call f ⟨vs', []⟩) (fun r s' => match r with | .ok (.ret v) => Q v s' | .ok _ => False | .error e => E e s') s
theorem ClK.cl {f : Value} {vs : List Value} {R : Value -> Led -> Prop} (h : ClK c m led f vs R) : Cl c m led f vs R := fun vs' Q E s S hv k => wpAny_call (h vs' Q E s S hv k)
noncomputable abbrev Same (v : Value) (led : Led) : Value -> Led -> Prop := fun v' l => v' = v /\ l = led
theorem Ev.g {e : Expr} {v : Value} (h : Ev c m led e v) : EvG c m led e (Same v led) := fun Q E s S k => h Q E s S fun v' s' hv S' => k v' led s' ⟨hv, rfl⟩ S'
theorem EvG.ev {e : Expr} {v : Value} (h : EvG c m led e (Same v led)) : Ev c m led e v := fun Q E s S k => h Q E s S fun v' l s' hv S' => k v' s' hv.1 (hv.2 ▸ S')
theorem EvG.mono {e : Expr} {R R' : Value -> Led -> Prop} (h : EvG c m led e R) (hr : ∀ v l, R v l -> R' v l) : EvG c m led e R' := fun Q E s S k => h Q E s S fun v' l s' hv S' => k v' l s' (hr _ _ hv) S'
theorem Bd.mono {ss : List Stmt} {P P' : Flow -> Shared -> Prop} (h : Bd c m led ss P) (hr : ∀ f s, P f s -> P' f s) : Bd c m led ss P' := fun Q E s hE S k => h Q E s hE S fun f s' p => k f s' (hr _ _ p)
theorem Ev.int {i : Int} {k : Nat} {pos : Pos} : Ev c m led (.Constant (.int i) k pos) (.int i 0) := fun Q E s S h => wpAny_Constant_int (h _ _ rfl S)
theorem Ev.strc {x : Str} {k : Nat} {pos : Pos} : Ev c m led (.Constant (.str x) k pos) (.str x 0) := fun Q E s S h => Calls.Constant_str (h _ _ rfl S)
theorem Ev.name {x : Str} {pos : Pos} {v : Value} (ok : c.Ok) (hk : c.env.kindOf x = some .local) (hd : (x == Str.ofString "__debug__") = false) (hm : m x = some v) : Ev c m led (.Name x pos) v := by
 intro Q E s S h
 have S0 := S
 (refine q08 S fun m' led' F hm' _ => ?_; (try clear S))
 have e := hm' x
 rw [hm] at e
 (refine E_ea (Option.map_eq_some_iff.mp e) fun v' e1 e2 => ?_)
 rw [ok.E] at hk ⊢
 exact nameX_L F e1 (h v' s e2 S0) ok.K hk hd
theorem Ev.builtinG {x : Str} {pos : Pos} {v : Value} (ok : c.OkG) (hk : c.env.kindOf x = some .globalImplicit) (hd : (x == Str.ofString "__debug__") = false) (e : nsIn (Mine.hd.heap_1 c.w.params) mainGlobals x = some none) (hv : bootBuiltins x = some v) (hn : x ≠ "__name__") (hve : eV v = v) : Ev c m led (.Name x pos) v := by
 intro Q E s S h
 have S0 := S
 (refine q07 S fun m' led' F _ => ?_; (try clear S))
 (refine q0y (ok.T) fun p loose mean mg mb T => ?_)
 have T' := topRead_of T
 (refine E_aa (ok.G) fun g1 g2 g3 => ?_)
 exact Name_function_global g1 hk (loadGlobal_builtin (env := c.env) (by rw [g2]; exact T'.g.keeps F.keep) (mg_none_of ok.X T'.g e) (by rw [g3]; exact T'.b.keeps F.keep) ((T'.builtins x hn).trans hv) (h v s hve S0)) hd
theorem Ev.builtin {x : Str} {pos : Pos} {v : Value} (ok : c.Ok) (hk : c.env.kindOf x = some .globalImplicit) (hd : (x == Str.ofString "__debug__") = false) (e : nsIn (Mine.hd.heap_1 c.w.params) mainGlobals x = some none) (hv : bootBuiltins x = some v) (hn : x ≠ "__name__") (hve : eV v = v) : Ev c m led (.Name x pos) v := Ev.builtinG ok.toOkG hk hd e hv hn hve
theorem Ev.globalG {x : Str} {pos : Pos} {v v1 : Value} (ok : c.OkG) (hk : c.env.kindOf x = some .globalImplicit) (hd : (x == Str.ofString "__debug__") = false) (e : nsIn (Mine.hd.heap_1 c.w.params) mainGlobals x = some (some v)) (hve : eV v = v1) : Ev c m led (.Name x pos) v1 := by
 intro Q E s S h
 have S0 := S
 (refine q07 S fun m' led' F _ => ?_; (try clear S))
 (refine q0y (ok.T) fun p loose mean mg mb T => ?_)
 have T' := topRead_of T
 (refine E_aa (ok.G) fun g1 g2 g3 => ?_)
 exact Name_function_global g1 hk (loadGlobal_global (env := c.env) (by rw [g2]; exact T'.g.keeps F.keep) (mg_of ok.X T'.g e) (h v s hve S0)) hd
section
variable {a b : Expr} {x y : Int} {pos : Pos}
theorem Ev.binop {op : Operator} {v : Value} (ha : Ev c m led a (.int x 0)) (hb : Ev c m led b (.int y 0))
  (ho : ∀ (Q E : Value -> Shared -> Prop) s t u, (∀ v' tk, eV v' = v -> Q v' { s with toks := tk }) -> wpAny c.M c.A (binaryOp op (.int x t) (.int y u)) Q E s) : Ev c m led (.BinOp a op b pos) v := by
 intro Q E s S h
 refine wpAny_BinOp (ha _ _ s S fun va s1 ea S1 => hb _ _ s1 S1 fun vb s2 eb S2 => ?_)
 (refine E_e (q0a ea) fun t z1z => ?_; subst z1z)
 (refine E_e (q0a eb) fun u z1z => ?_; subst z1z)
 exact ho _ _ _ _ _ fun v' tk e => h _ _ e S2
theorem Ev.add (ha : Ev c m led a (.int x 0)) (hb : Ev c m led b (.int y 0)) : Ev c m led (.BinOp a .Add b pos) (.int (x + y) 0) := Ev.binop ha hb fun _ _ _ _ _ k => add_int (k _ _ rfl)
theorem Ev.sub (ha : Ev c m led a (.int x 0)) (hb : Ev c m led b (.int y 0)) : Ev c m led (.BinOp a .Sub b pos) (.int (x - y) 0) := Ev.binop ha hb fun _ _ _ _ _ k => sub_int (k _ _ rfl)
theorem Ev.mul (ha : Ev c m led a (.int x 0)) (hb : Ev c m led b (.int y 0)) (hk : IntMulOk x y) : Ev c m led (.BinOp a .Mult b pos) (.int (x * y) 0) := Ev.binop ha hb fun _ _ _ _ _ k => mul_int (k _ _ rfl) hk
theorem Ev.mod (ha : Ev c m led a (.int x 0)) (hb : Ev c m led b (.int y 0)) (hy : 0 < y) : Ev c m led (.BinOp a .Mod b pos) (.int (x % y) 0) := Ev.binop ha hb fun _ _ _ _ _ k => mod_int' (by exact Int.ne_of_gt hy) (k _ _ (by rw [Int.fmod_eq_emod_of_nonneg _ (by exact Int.le_of_lt hy)]; rfl))
theorem Ev.fdiv (ha : Ev c m led a (.int x 0)) (hb : Ev c m led b (.int y 0)) (hy : 0 < y) (hp : Builtin.divisionGoesByPylong x y = false) : Ev c m led (.BinOp a .FloorDiv b pos) (.int (x / y) 0) := Ev.binop ha hb fun _ _ _ _ _ k => floordiv_int (by exact Int.ne_of_gt hy) (k _ _ (by rw [Int.fdiv_eq_ediv_of_nonneg _ (by exact Int.le_of_lt hy)]; rfl)) (.inl hp)
theorem Ev.neg (ha : Ev c m led a (.int x 0)) : Ev c m led (.UnaryOp .USub a pos) (.int (-x) 0) := by
 intro Q E s S h
 refine UnaryOp_ (ha _ _ s S fun va s1 ea S1 => ?_)
 (refine E_e (q0a ea) fun t z1z => ?_; subst z1z)
 exact neg_int (h _ _ rfl S1)
theorem Tb.cmp {op : CmpOp} {r : Bool} (ha : Ev c m led a (.int x 0)) (hb : Ev c m led b (.int y 0)) (hm : behindInMarks op b = false)
  (ho : ∀ (Q E : Value -> Shared -> Prop) s t u, Q (.bool r) s -> wpAny c.M c.A (compareOp op (.int x t) (.int y u)) Q E s) : Tb c m led (.Compare a [op] [b] pos) r := by
 intro Q E s S h
 refine wpAny_isTrue_Compare1 (ha _ _ s S fun va s1 ea S1 => hb _ _ s1 S1 fun vb s2 eb S2 => ?_) hm
 (refine E_e (q0a ea) fun t z1z => ?_; subst z1z)
 (refine E_e (q0a eb) fun u z1z => ?_; subst z1z)
 exact ho _ _ _ _ _ (wpAny_truthy_bool (h _ S2))
theorem Tb.lt (ha : Ev c m led a (.int x 0)) (hb : Ev c m led b (.int y 0)) (hm : behindInMarks .Lt b = false) : Tb c m led (.Compare a [.Lt] [b] pos) (decide (x < y)) := Tb.cmp ha hb hm fun _ _ _ _ _ k => lt_int k
theorem Tb.gt (ha : Ev c m led a (.int x 0)) (hb : Ev c m led b (.int y 0)) (hm : behindInMarks .Gt b = false) : Tb c m led (.Compare a [.Gt] [b] pos) (decide (y < x)) := Tb.cmp ha hb hm fun _ _ _ _ _ k => gt_int k
theorem Ev.cmp {op : CmpOp} {r : Bool} (ha : Ev c m led a (.int x 0)) (hb : Ev c m led b (.int y 0)) (hm : behindInMarks op b = false)
  (ho : ∀ (Q E : Value -> Shared -> Prop) s t u, Q (.bool r) s -> wpAny c.M c.A (compareOp op (.int x t) (.int y u)) Q E s) : Ev c m led (.Compare a [op] [b] pos) (.bool r) := by
 intro Q E s S h
 refine wpAny_Compare1 (ha _ _ s S fun va s1 ea S1 => hb _ _ s1 S1 fun vb s2 eb S2 => ?_) hm
 (refine E_e (q0a ea) fun t z1z => ?_; subst z1z)
 (refine E_e (q0a eb) fun u z1z => ?_; subst z1z)
 exact ho _ _ _ _ _ (h _ _ rfl S2)
theorem Ev.lt (ha : Ev c m led a (.int x 0)) (hb : Ev c m led b (.int y 0)) (hm : behindInMarks .Lt b = false) : Ev c m led (.Compare a [.Lt] [b] pos) (.bool (decide (x < y))) := Ev.cmp ha hb hm fun _ _ _ _ _ k => lt_int k
theorem Tb.not {r : Bool} (h : Tb c m led a r) : Tb c m led (.UnaryOp .Not a pos) (!r) := fun Q E s S k => isTrue_not (h _ _ s S k)
theorem Tb.bool {r : Bool} (h : Ev c m led a (.bool r)) (hw : PySem.isTrue a c.env (eval a c.env) = (do let v <- eval a c.env; standAt a.pos; holding [v] (truthy v))) : Tb c m led a r := by
 intro Q E s S k
 refine isTrue_plain (h _ _ s S fun v s1 e S1 => ?_) hw
 obtain rfl := q42 e
 exact wpAny_truthy_bool (k _ S1)
theorem TbA.nil : TbA c m led [] true := fun pos whole Q E s S k => isTrue_and_nil (k _ S)
theorem TbA.cons {es : List Expr} {p q : Bool} (h1 : Tb c m led a p) (h2 : TbA c m led es q) : TbA c m led (a :: es) (p && q) := by
 intro pos whole Q E s S k
 refine isTrue_and (h1 _ _ s S fun s1 S1 => ?_)
 cases p with
 | false => exact k _ S1
 | true => exact h2 _ _ _ _ _ S1 k
theorem Tb.and {es : List Expr} {r : Bool} (h : TbA c m led es r) : Tb c m led (.BoolOp .And es pos) r := fun Q E s S k => h _ _ _ _ s S k
theorem EvA.nil : EvA c m led [] [] := fun pos Q E s S k => args_nil (k _ _ rfl S)
theorem EvA.cons {es : List Expr} {v : Value} {vs : List Value} (hs : starEach (a :: es) c.env = (false, eval a c.env) :: starEach es c.env) (h1 : Ev c m led a v) (h2 : EvA c m led es vs) : EvA c m led (a :: es) (v :: vs) := by
 intro pos Q E s S k
 exact args_cons (h1 _ _ s S fun v' s1 e S1 => h2 _ _ _ s1 S1 fun vs' s2 es' S2 => k _ _ (by rw [List.map_cons, e, es']) S2) hs
end
section
variable {x : Str} {v : Value} {e : Expr} {rest : List Stmt} {pos p' : Pos} {P : Flow -> Shared -> Prop}
theorem SS.store {s : Shared} {v' : Value} (ok : c.Ok) (S : SS c m led s) (hv : eV v' = v) (hk : c.env.kindOf x = some .local) {Q : Unit -> Shared -> Prop} {E : Value -> Shared -> Prop} (h : ∀ s', SS c (updM m x v) led s' -> Q () s') : wpAny c.M c.A (storeName c.env x v') Q E s := by
 (refine q00 S fun m' led' F hm' N hl hn hg => ?_; (try clear S))
 rw [ok.E] at hk ⊢
 refine storeX_L F N (fun h' F' N' => h _ ⟨_, led', F', fun y => ?_, N', hl, hn, hg⟩) ok.K hk
 unfold updM
 by_cases q : y = x
 ·rw [if_pos q, if_pos q, Option.map_some, hv]
 ·rw [if_neg q, if_neg q]; exact hm' y
theorem Bd.nil (h : ∀ s, SS c m led s -> P .next s) : Bd c m led [] P := fun Q E s hE S k => wpAny_execs_nil (k _ _ (h _ S))
theorem Bd.assign (ok : c.Ok) (he : Ev c m led e v) (hr : Bd c (updM m x v) led rest P) (hk : c.env.kindOf x = some .local) (hw : swapsWith e (some (Expr.Name x p')) pos.line c.env = pure false) : Bd c m led (.Assign [.Name x p'] e pos :: rest) P := by
 intro Q E s hE S k
 exact wpAny_execs_cons (wpAny_Assign_Name (he _ _ s S fun v' s1 ev S1 => SS.store ok S1 ev hk fun s2 S2 => hr _ _ _ hE S2 k) hw)
theorem Bd.assignG {R : Value -> Led -> Prop} (ok : c.Ok) (he : EvG c m led e R) (hr : ∀ v l, R v l -> Bd c (updM m x v) l rest P) (hk : c.env.kindOf x = some .local) (hw : swapsWith e (some (Expr.Name x p')) pos.line c.env = pure false) : Bd c m led (.Assign [.Name x p'] e pos :: rest) P := by
 intro Q E s hE S k
 exact wpAny_execs_cons (wpAny_Assign_Name (he _ _ s S fun v' l s1 ev S1 => SS.store ok S1 rfl hk fun s2 S2 => hr _ _ ev _ _ _ hE S2 k) hw)
noncomputable def q3t (c : Cx) (rest : List Stmt) (P : Flow -> Shared -> Prop) : Flow -> Shared -> Prop
 | .next, s' => ∀ (Q : Flow -> Shared -> Prop) E, PassesOwn c.M c.A c.env E -> (∀ f s'', P f s'' -> Q f s'') -> wpAny c.M c.A (execs rest c.env) Q E s'
 | f, s' => P f s'
theorem Bd.fall (h : Bd c m led rest P) : Bd c m led [] (q3t c rest P) := Bd.nil fun s S Q E hE k => h Q E s hE S k
theorem Bd.ite {test : Expr} {body orelse : List Stmt} {b : Bool} (ht : Tb c m led test b) (h1 : b = true -> Bd c m led body (q3t c rest P)) (h2 : b = false -> Bd c m led orelse (q3t c rest P)) : Bd c m led (.If test body orelse pos :: rest) P := by
 intro Q E s hE S k
 refine wpAny_execs_cons (wpAny_If (ht _ _ s S fun s1 S1 => ?_))
 have fin : ∀ f s', q3t c rest P f s' -> (match f with | .next => wpAny c.M c.A (execs rest c.env) Q E s' | f => Q f s') := by
  intro f s' h
  cases f with
  | next => exact h Q E hE k
  | _ => exact k _ _ h
 cases b with
 | true => rw [if_pos rfl]; exact h1 rfl _ _ _ hE S1 fin
 | false => rw [if_neg (by decide)]; exact h2 rfl _ _ _ hE S1 fin
theorem Bd.expr (he : EvG c m led e R) (hr : ∀ v l, R v l -> Bd c m l rest P) (hi : interactive c.env = false) (hw : swapsWith e none pos.line c.env = pure false) : Bd c m led (.Expr e pos :: rest) P := by
 intro Q E s hE S k
 exact wpAny_execs_cons (wpAny_Expr_any (he _ _ s S fun v' l s1 ev S1 => hr _ _ ev _ _ _ hE S1 k) hi hw)
theorem Bd.ret {R : Value -> Led -> Prop} (he : EvG c m led e R) (h : ∀ v l s, R (eV v) l -> SS c m l s -> P (.ret v) s) : Bd c m led (.Return (some e) pos :: rest) P := by
 intro Q E s hE S k
 exact wpAny_execs_cons (wpAny_Return_some (he _ _ s S fun v' l s1 ev S1 => k _ _ (h _ _ _ ev S1)))
end
end
end
end
end H
section
open PySem PySem.W PyProof.Rows PySem.Calls
example : True := by
 k_with_none
 k_with "omega" => (first | assumption | exact Nat.le_refl _ | exact Nat.ne_of_lt (by assumption) | exact Nat.ne_of_gt (by assumption) | exact Nat.le_of_lt (by assumption) | lia)
 trivial
section
theorem rng_up (n : Nat) (h : n < 1000) : Builtin.Range.small 0 (n : Int) 1 = true /\ Builtin.Range.rangeSize 0 (n : Int) 1 = (n : Int) := by
 have e : Builtin.Range.rangeSize 0 (n : Int) 1 = (n : Int) := by
  unfold Builtin.Range.rangeSize
  simp
  try omega
 refine ⟨?_, e⟩
 unfold Builtin.Range.small
 rw [e]
 unfold Builtin.Range.rangeFitsLong
 simp
 exact o29 h
noncomputable abbrev q2c (x : Int) : Bool := ([9, 32] : List Int).any fun y => y == x
noncomputable def upN (x : Int) : Int := if x < 64 then 0 else if x < 4096 then 1 else 2
noncomputable abbrev Seam := Int × Int × List Int
structure SS where
 ss : List Seam
 place : Int
 before : Int
noncomputable def upA (a : Int) : Int := if a <= 0 then 0 else if a < 64 then 1 else 2
theorem qhg {x : Int} (h : 0 <= x /\ x < 262144) : upA (x / 64) = upN x := by
 unfold upA upN
 split <;> split <;> first | rfl | omega | (split <;> first | rfl | omega)
theorem qcp {a : Int} (h : 0 < a /\ a < 4096) : upA (a / 64) + 1 = upA a := by
 unfold upA
 split <;> split <;> first | rfl | omega | (split <;> first | rfl | omega)
section
variable {prog : Program} {w : World} {A : Around} {E : Value -> Shared -> Prop} {Q : Flow -> Shared -> Prop} {s : Shared} {env : Env} {h₀ : Heap} {L : Addr}
end
noncomputable def q1l (w x : Int) (st : SS) : SS :=
 ⟨if q2c (x % 64) && !(decide (x < 64) && q2c st.before) then st.ss ++ [(st.place + upN x, w, if x < 64 then [x % 64, st.before] else [x % 64])] else st.ss, st.place + upN x + 1, x % 64⟩
noncomputable def q05 (ns : List Int) : Nat -> SS
 | 0 => ⟨[], 0, 0⟩
 | i + 1 => q1l i (ns.getD i 0) (q05 ns i)
theorem q99 {ns : List Int} {i : Nat} {x : Int} (hx : ns.getD i 0 = x) (h : (q2c (x % 64) && !(decide (x < 64) && q2c (q05 ns i).before)) = false) : q05 ns (i + 1) = ⟨(q05 ns i).ss, (q05 ns i).place + upN x + 1, x % 64⟩ := by
 show q1l i (ns.getD i 0) (q05 ns i) = _
 rw [hx]; unfold q1l; rw [h]; rfl
theorem qal {ns : List Int} {i : Nat} {x : Int} (hx : ns.getD i 0 = x) (h : (q2c (x % 64) && !(decide (x < 64) && q2c (q05 ns i).before)) = true) : q05 ns (i + 1) = ⟨(q05 ns i).ss ++ [((q05 ns i).place + upN x, (i : Int), if x < 64 then [x % 64, (q05 ns i).before] else [x % 64])], (q05 ns i).place + upN x + 1, x % 64⟩ := by
 show q1l i (ns.getD i 0) (q05 ns i) = _
 rw [hx]; unfold q1l; rw [h]; rfl
end
example : True := by
 k_with_none
 k_with "omega" => (first | assumption | exact Nat.le_refl _ | exact Nat.ne_of_lt (by assumption) | exact Nat.ne_of_gt (by assumption) | exact Nat.le_of_lt (by assumption) | lia)
 k_with "k_room" => (ktr_room)
 trivial
noncomputable def numOf (x : Int) : Int := if x.fmod 6 < 4 then 64 * (x.fdiv 6).fmod 4096 + ([32, 9, 44, 59] : List Int).getD (x.fmod 6).toNat 0 else (x.fdiv 6).fmod 262144
noncomputable def numsOf (ns : List Int) : List Int := 32 :: (ns.take 6).map numOf ++ [352, 44, 9, 2000, 8393, 59, 32, 100, 33]
theorem qg3 {pre ns : List Int} {x : Int} (e : ns = 32 :: pre.map numOf) (h : ¬ x.fmod 6 < 4) : ns ++ [(x.fdiv 6).fmod 262144] = 32 :: (pre ++ [x]).map numOf := by
 rw [e, List.map_append, List.map_singleton, numOf, if_neg h]; rfl
theorem qg4 {pre ns : List Int} {x : Int} (e : ns = 32 :: pre.map numOf) (h : x.fmod 6 < 4) : ns ++ [64 * (x.fdiv 6).fmod 4096 + [32, 9, 44, 59].getD (x.fmod 6).toNat 0] = 32 :: (pre ++ [x]).map numOf := by
 rw [e, List.map_append, List.map_singleton, numOf, if_pos h]; rfl
theorem qcz {w : World} {p : Program} {loose : List Str} {mean : ExcName -> Option Value} {mg mb : Str -> Option Value}
 {dp un : Nat} {gd : Option (List Code)} {cn : Str} {cs : Scope} {a : Addr} {ccd : Value} {cl : List (Str × Addr)} {outer : List Env} {A₀ : Around} {base h₀ : Heap} {L : Addr} {m : Str -> Option Value} {s : Shared}
 {Q E : Value -> Shared -> Prop} {sa : Addr} {vs : List Value} {ns : List Int} {news : List (Addr × Obj)}
 (B : Below A₀ base outer h₀) (F : Fr h₀ L s.heap m) (X : (Mine.hd.heap_1 w.params).In h₀) (N : News h₀ L s.heap news) (T : Top p loose mean mg mb h₀) (hk : cs.kind = .function)
 (hS : h₀.IsList sa vs.toArray) (hI : IntsAre vs ns) (hn : ns.length <= 63)
 (hd : dp + 20 < recursionLimit) (hu : un + 200 < cLine)
 (ret : ∀ h' tk' la rs nl, Fr h₀ L h' m -> News h₀ L h' ((la, W.listOf rs.toArray nl) :: news) -> IntsAre rs (numsOf ns) -> Q (.ref la) { s with heap := h', toks := tk' }) :
 wpAny (model Challenge.rw_un0030_01.row.prog w) (ktrTop dp un gd cn cs L a ccd cl outer) (call (.ref 260) [.ref sa]) Q E s := by
 revert X
 k_fill
 intro X
 refine wpAny_call ?_
 have N0 : News h₀ L s.heap [] := fun _ h => nomatch h
 k_dflt ((refine' code_defR (by k_asm) (by k_asm) (by k_asm) N0 N (fun _ _ _ h => nomatch h) (by k_asm) (by exact rfl) (by exact rfl) (by first | exact rfl | assumption) (by k_is) (by k_is) (by k_room) (by first | exact BindsTo.of_eq rfl | exact binds_K (by k_in) rfl (by k_is) rfl rfl rfl | fail "no rule for these arguments") (by exact locs rfl) ?_ (by exact rfl) (by exact rfl) (by exact rfl) (by decide); k_whole; intro g' L' h' FG' F' N' B' X' T' l1 hr1; (try k_lt l1); (try (have l2 := allLt_up l1; have l3 := allLt_up l2; have l4 := allLt_up l3)); (try dsimp only); (try k_lift B'); (try k_fold)))
 have hS9 := hS.at (FG'.keep sa)
 (k_with "pyIter ref" => k_state (fun pre numbers => numbers.length = pre.length + 1 /\ numbers = 32 :: pre.map numOf) "numbers")
 (k_with "state" => (first | (refine ⟨by (simp only [List.length_append, List.length_singleton]; omega), ?_⟩; first | exact qg3 (by assumption) (by assumption) | exact qg4 (by assumption) (by assumption)) | (simp_all [numOf]; done)))
 repeat' (first | (k_unfold; (try dsimp only)) | walk1 | (dsimp only; walk1))
 all_goals (try k_data)
 rename IntsAre _ (_ ++ _) => hR
 rename News h₀ L _ news => NR
 rename News h₀ L _ (_ :: _) => NO
 rename _ = 32 :: _ => hQ
 rw [hQ] at hR
 exact ret _ _ _ _ _ (by k_asm) (q0n (NO _ (.head _)) NR) hR
example : True := by
 k_with_none
 k_with "omega" => (first | assumption | exact Nat.le_refl _ | exact Nat.ne_of_lt (by assumption) | exact Nat.ne_of_gt (by assumption) | exact Nat.le_of_lt (by assumption) | lia)
 trivial
noncomputable def hiOf (x : Int) : List Int := if x < 64 then [] else if x < 4096 then [x / 64 + 64] else [x / 64 / 64 + 64, x / 64 % 64 + 64]
theorem q30 {x : Int} (h : 0 <= x /\ x < 262144) : q0w x = hiOf x ++ [x % 64] := by
 (refine E_a h fun h0 h1 => ?_; (try clear h))
 unfold q0w dig1 digs hiOf
 by_cases e : x = 0
 ·subst e; rfl
 rw [if_neg e]
 by_cases e1 : x < 64
 ·rw [if_pos (show x < 2 ^ 6 from e1), if_pos e1, if_neg (by simp)]
  show [x] = [x % 64]
  rw [Int.emod_eq_of_lt h0 e1]
 rw [if_neg (show ¬ x < 2 ^ 6 from e1), if_neg e1]
 by_cases e2 : x < 4096
 ·rw [if_pos (show x < 2 ^ 6 * 2 ^ 6 by omega), if_pos e2, if_neg (by simp)]
  rfl
 ·rw [if_neg (show ¬ x < 2 ^ 6 * 2 ^ 6 by omega), if_neg e2, if_neg (by simp)]
  rfl
theorem qau {x : Int} : ((hiOf x).length : Int) = upN x := by
 unfold hiOf upN
 split
 ·rfl
 split <;> rfl
theorem qe0 {x : Int} (h : 0 <= x /\ x < 262144) : ∀ a ∈ hiOf x, 64 <= a /\ a < 128 := by
 intro a ha
 unfold hiOf at ha
 split at ha
 ·cases ha
 split at ha
 ·rcases List.mem_singleton.mp ha with rfl
  exact o303 h (by assumption)
 ·simp only [List.mem_cons, List.not_mem_nil, or_false] at ha
  rcases ha with rfl | rfl <;> omega
theorem hi_nil {x : Int} : hiOf x = [] ↔ x < 64 := by
 unfold hiOf
 split
 ·simp [*]
 split <;> simp [*]
theorem qfn {x : Int} : hiOf (64 * (x / 64)) = hiOf x := by
 unfold hiOf
 have e : 64 * (x / 64) / 64 = x / 64 := by exact o372
 rw [e]
 by_cases h : x < 64
 ·rw [if_pos h, if_pos (by exact o355 h)]
 rw [if_neg h, if_neg (by exact o360 h)]
 by_cases h2 : x < 4096
 ·rw [if_pos h2, if_pos (by exact o353 h2)]
 ·rw [if_neg h2, if_neg (by exact o359 h2)]
theorem qcx {x : Int} (h : 0 <= x /\ x < 262144) : q0w (64 * (x / 64)) = hiOf x ++ [0] := by
 rw [q30 (by exact o307 h), qfn, show 64 * (x / 64) % 64 = 0 by exact o371]
theorem qdk {x : Int} : q0w (x % 64) = [x % 64] := by
 rw [q30 (by exact o380), hi_nil.mpr (by exact Int.emod_lt_of_pos _ (by decide)), show x % 64 % 64 = x % 64 by exact o375]
 rfl
theorem q1a (a b : List Int) : q01 (a ++ b) = q01 a ++ q01 b := by unfold q01; exact List.flatMap_append
theorem q1r (a : Int) : q01 [a] = q0w a := by unfold q01; simp
structure DS where
 (rows : List (List Int)) (row : List Int)
noncomputable def q3u (folds : List Int) (w x : Int) (st : DS) : DS := if w ∈ folds then ⟨st.rows ++ [st.row ++ [64 * (x / 64)]], [x % 64]⟩ else ⟨st.rows, st.row ++ [x]⟩
noncomputable def q0k (ns folds : List Int) : Nat -> DS
 | 0 => ⟨[], []⟩
 | i + 1 => q3u folds i (ns.getD i 0) (q0k ns folds i)
noncomputable def q60 (ns folds : List Int) : List (List Int) := (q0k ns folds ns.length).rows ++ [(q0k ns folds ns.length).row ++ [0]]
noncomputable def slSt {α : Type} (text : List α) (ps : List Nat) : List (List α) × Nat := ps.foldl (fun s p => (s.1 ++ [(text.take p).drop s.2], p)) ([], 0)
theorem q0p {α : Type} {text : List α} {ps : List Nat} {p : Nat} : slSt text (ps ++ [p]) = ((slSt text ps).1 ++ [(text.take p).drop (slSt text ps).2], p) := by
 unfold slSt; rw [List.foldl_append]; rfl
noncomputable def q0h (ns : List Int) (w : Nat) : Nat := (q01 (ns.take w)).length + (hiOf (ns.getD w 0)).length
theorem q7o {W : List Nat} {j : Nat} (h : W.Pairwise (· < ·)) (hj : j ∈ W) : W.filter (fun w => decide (w < j + 1)) = W.filter (fun w => decide (w < j)) ++ [j] := by
 induction W with
 | nil => cases hj
 | cons w W ih =>
  (refine E_a (List.pairwise_cons.mp h) fun h1 h2 => ?_)
  rcases List.mem_cons.mp hj with e | hj
  ·subst e
   rw [List.filter_cons, List.filter_cons, if_pos (by simp), if_neg (by simp)]
   have e1 : W.filter (fun w => decide (w < j + 1)) = [] := List.filter_eq_nil_iff.mpr fun a ha => by have := h1 a ha; simp; exact this
   have e2 : W.filter (fun w => decide (w < j)) = [] := List.filter_eq_nil_iff.mpr fun a ha => by have := h1 a ha; simp; exact Nat.le_of_lt this
   rw [e1, e2]; rfl
  ·have := h1 j hj
   rw [List.filter_cons, List.filter_cons, if_pos (by simp; exact Nat.lt_succ_of_lt this), if_pos (by simp; exact this), ih h2 hj]; rfl
theorem q7u {W : List Nat} {j : Nat} (hj : j ∉ W) : W.filter (fun w => decide (w < j + 1)) = W.filter (fun w => decide (w < j)) := by
 refine List.filter_congr fun w hw => ?_
 have : w ≠ j := fun e => hj (e ▸ hw)
 rw [decide_eq_decide]; exact o145 this
theorem q0s {ns : List Int} {j : Nat} (h : j < ns.length) : q01 (ns.take (j + 1)) = q01 (ns.take j) ++ q0w (ns.getD j 0) := by
 rw [List.take_add_one, q1a, List.getD_eq_getElem?_getD, List.getElem?_eq_getElem h]
 show _ ++ q01 [ns[j]] = _
 rw [q1r]; rfl
theorem q87 (ns : List Int) (j : Nat) : q01 ns = q01 (ns.take j) ++ q01 (ns.drop j) := by rw [<- q1a, List.take_append_drop]
theorem q24 {ns : List Int} (hx : ∀ x ∈ ns, 0 <= x /\ x < 262144) (j : Nat) : 0 <= ns.getD j 0 /\ ns.getD j 0 < 262144 := by
 rw [List.getD_eq_getElem?_getD]
 cases e : ns[j]? with
 | none => exact ⟨Int.le_refl _, by decide⟩
 | some x => exact hx x (List.mem_of_getElem? e)
theorem q9l {ns : List Int} (hx : ∀ x ∈ ns, 0 <= x /\ x < 262144) {W : List Nat} (hW : W.Pairwise (· < ·)) :
  ∀ j, j <= ns.length →
   (q0k ns (W.map Int.ofNat) j).rows.map q01 = (slSt (q01 ns) ((W.filter fun w => decide (w < j)).map (q0h ns))).1.map (· ++ [0]) /\
   q01 (q0k ns (W.map Int.ofNat) j).row = (q01 (ns.take j)).drop (slSt (q01 ns) ((W.filter fun w => decide (w < j)).map (q0h ns))).2 /\
   (slSt (q01 ns) ((W.filter fun w => decide (w < j)).map (q0h ns))).2 <= (q01 (ns.take j)).length /\
   (∀ r ∈ (q0k ns (W.map Int.ofNat) j).rows, ∀ x ∈ r, 0 <= x /\ x < 262144) /\ (∀ x ∈ (q0k ns (W.map Int.ofNat) j).row, 0 <= x /\ x < 262144) := by
 intro j
 induction j with
 | zero =>
  intro _
  have e : W.filter (fun w => decide (w < 0)) = [] := List.filter_eq_nil_iff.mpr fun a _ => by simp
  rw [e]
  exact ⟨rfl, rfl, Nat.le_refl _, (fun r h => by cases h), (fun r h => by cases h)⟩
 | succ j ih =>
  intro hj
  (refine q2r (ih (by exact Nat.le_of_lt hj)) fun h1 h2 h3 h4 h5 => ?_)
  have hxr := q24 hx j
  have et : q01 (ns.take (j + 1)) = q01 (ns.take j) ++ (hiOf (ns.getD j 0) ++ [ns.getD j 0 % 64]) := by rw [q0s (by exact hj), q30 hxr]
  have etl : (q01 (ns.take (j + 1))).length = q0h ns j + 1 := by
   rw [et]; unfold q0h; simp only [List.length_append, List.length_cons, List.length_nil]; exact Nat.add_zero _
  have etg : (q01 (ns.take j)).length <= (q01 (ns.take (j + 1))).length := by rw [et, List.length_append]; exact Nat.le_add_right _ _
  have key : (q01 ns).take (q0h ns j) = q01 (ns.take j) ++ hiOf (ns.getD j 0) := by
   rw [q87 ns (j + 1), et]
   have e4 : (q01 (ns.take j) ++ (hiOf (ns.getD j 0) ++ [ns.getD j 0 % 64]) ++ q01 (ns.drop (j + 1))) = (q01 (ns.take j) ++ hiOf (ns.getD j 0)) ++ ([ns.getD j 0 % 64] ++ q01 (ns.drop (j + 1))) := by simp only [List.append_assoc]
   rw [e4, List.take_left' (by unfold q0h; rw [List.length_append])]
  by_cases hm : j ∈ W
  ·have hm2 : (j : Int) ∈ W.map Int.ofNat := List.mem_map.mpr ⟨j, hm, rfl⟩
   have ed : q0k ns (W.map Int.ofNat) (j + 1) = ⟨(q0k ns (W.map Int.ofNat) j).rows ++ [(q0k ns (W.map Int.ofNat) j).row ++ [64 * (ns.getD j 0 / 64)]], [ns.getD j 0 % 64]⟩ := by
    show q3u _ _ _ _ = _
    unfold q3u; rw [if_pos hm2]
   rw [ed, q7o hW hm, List.map_append (f := q0h ns), List.map_singleton (f := q0h ns), q0p]
   refine ⟨?_, ?_, ?_, ?_, ?_⟩
   ·rw [List.map_append, List.map_append, h1, List.map_singleton, List.map_singleton, q1a, q1r, qcx hxr, h2]
    congr 2
    rw [key]
    rw [List.drop_append_of_le_length h3, List.append_assoc]
   ·rw [q1r, qdk, et]
    show _ = List.drop (q0h ns j) _
    rw [<- List.append_assoc, List.drop_left' (by unfold q0h; rw [List.length_append])]
   ·show q0h ns j <= _
    exact o164 etl
   ·intro r hr
    rcases List.mem_append.mp hr with hr | hr
    ·exact h4 r hr
    ·rw [List.mem_singleton.mp hr]
     intro x hx1
     rcases List.mem_append.mp hx1 with h | h
     ·exact h5 x h
     ·rw [List.mem_singleton.mp h]; exact o307 hxr
   ·intro x hx1
    rw [List.mem_singleton.mp hx1]; exact o380
  ·have hm2 : (j : Int) ∉ W.map Int.ofNat := fun h => by
    (refine E_ea (List.mem_map.mp h) fun k hk e => ?_)
    exact hm (by rw [show j = k from (Int.ofNat.inj e).symm]; exact hk)
   have ed : q0k ns (W.map Int.ofNat) (j + 1) = ⟨(q0k ns (W.map Int.ofNat) j).rows, (q0k ns (W.map Int.ofNat) j).row ++ [ns.getD j 0]⟩ := by
    show q3u _ _ _ _ = _
    unfold q3u; rw [if_neg hm2]
   rw [ed, q7u hm]
   refine ⟨h1, ?_, Nat.le_trans h3 etg, h4, ?_⟩
   ·rw [q1a, q1r, h2, q0s (by exact hj), List.drop_append_of_le_length h3]
   ·intro x hx1
    rcases List.mem_append.mp hx1 with h | h
    ·exact h5 x h
    ·rw [List.mem_singleton.mp h]; exact hxr
noncomputable def q1n {α : Type} (text : List α) (ps : List Nat) : List (List α) := (slSt text ps).1 ++ [text.drop (slSt text ps).2]
theorem qeg {ns : List Int} (hx : ∀ x ∈ ns, 0 <= x /\ x < 262144) {W : List Nat} (hW : W.Pairwise (· < ·)) (hl : ∀ w ∈ W, w < ns.length) :
  (q60 ns (W.map Int.ofNat)).map q01 = (q1n (q01 ns) (W.map (q0h ns))).map (· ++ [0]) /\ ∀ r ∈ q60 ns (W.map Int.ofNat), ∀ x ∈ r, 0 <= x /\ x < 262144 := by
 (refine q2r (q9l hx hW ns.length (Nat.le_refl _)) fun h1 h2 h3 h4 h5 => ?_)
 have e : W.filter (fun w => decide (w < ns.length)) = W := List.filter_eq_self.mpr fun w hw => by simp [hl w hw]
 rw [e] at h1 h2 h3
 rw [List.take_length] at h2 h3
 unfold q60 q1n
 refine ⟨?_, ?_⟩
 ·rw [List.map_append, List.map_append, h1, List.map_singleton, List.map_singleton, q1a, q1r, h2]
  rfl
 ·intro r hr
  rcases List.mem_append.mp hr with hr | hr
  ·exact h4 r hr
  ·rw [List.mem_singleton.mp hr]
   intro x hx1
   rcases List.mem_append.mp hx1 with h | h
   ·exact h5 x h
   ·rw [List.mem_singleton.mp h]; exact ⟨Int.le_refl _, by decide⟩
example : True := by
 k_with_none
 trivial
noncomputable abbrev q11 := List Nat × List Nat
theorem q0x (a b : List q11) : q02 (a ++ b) = q02 a ++ q02 b := by
 induction a with
 | nil => rfl
 | cons c r ih =>
  obtain ⟨w, p⟩ := c
  rw [List.cons_append, q19, q19, ih, List.append_assoc, List.append_assoc]
theorem q21 (w p : List Nat) : q02 [(w, p)] = w ++ p := by rw [q19]; show w ++ (p ++ []) = _; rw [List.append_nil]
structure CS where
 (cl : List q11) (w p : List Nat)
noncomputable def CS.all (s : CS) : List q11 := s.cl ++ [(s.w, s.p)]
noncomputable def addO (s : CS) (o : Nat) : CS := if isW o = true then (if s.p = [] then ⟨s.cl, s.w ++ [o], []⟩ else ⟨s.cl ++ [(s.w, s.p)], [o], []⟩) else ⟨s.cl, s.w, s.p ++ [o]⟩
theorem qfd {hi : List Nat} (h : ∀ a ∈ hi, isW a = false) : ∀ (s : CS), hi.foldl addO s = ⟨s.cl, s.w, s.p ++ hi⟩ := by
 induction hi with
 | nil => intro s; simp
 | cons o r ih =>
  intro s
  rw [List.foldl_cons, ih fun a ha => h a (.tail _ ha)]
  unfold addO
  rw [h o (.head _), if_neg (by decide)]
  simp
theorem q2t (s : CS) : q02 s.all = q02 s.cl ++ (s.w ++ s.p) := by unfold CS.all; rw [q0x, q21]
theorem qan (s : CS) (o : Nat) : q02 (addO s o).all = q02 s.all ++ [o] := by
 unfold addO
 split
 ·split
  ·rename_i h; simp only [q2t, h, List.append_nil, List.append_assoc]
  ·simp only [q2t, q0x, q21, List.append_nil, List.append_assoc]
 ·simp only [q2t, List.append_assoc]
noncomputable def octN (l : List Int) : List Nat := l.map Int.toNat
noncomputable def csAt (ns : List Int) : Nat -> CS
 | 0 => ⟨[], [], []⟩
 | j + 1 => (octN (q0w (ns.getD j 0))).foldl addO (csAt ns j)
theorem q71 {x : Int} (h : 0 <= x) : isW x.toNat = q2c x := by
 unfold isW q2c
 simp only [List.any_cons, List.any_nil, Bool.or_false]
 rw [Bool.or_comm]
 congr 1
 ·rw [Bool.eq_iff_iff]; simp only [beq_iff_eq]; exact o374
 ·rw [Bool.eq_iff_iff]; simp only [beq_iff_eq]; exact o373
theorem qg6 {x : Int} (h : 0 <= x /\ x < 262144) : ∀ a ∈ octN (hiOf x), isW a = false /\ 64 <= a /\ a < 128 := by
 intro a ha
 (refine E_ea (List.mem_map.mp ha) fun b hb z1z => ?_; subst z1z)
 have := qe0 h b hb
 refine ⟨?_, by exact o314 this, by exact o313 this⟩
 unfold isW
 have e1 : (b.toNat == 32) = false := by simp; exact o315 this
 have e2 : (b.toNat == 9) = false := by simp; exact o316 this
 rw [e1, e2]; rfl
structure Corr (s : CS) (st : SS) (ns : List Int) (j : Nat) : Prop where
 good : GoodC s.cl
 gw : s.w ≠ [] /\ ∀ a ∈ s.w, isW a = true
 gp : ∀ a ∈ s.p, isW a = false
 flat : q02 s.all = octN (q01 (ns.take j))
 place : st.place = ((q01 (ns.take j)).length : Int)
 bef : 0 <= st.before /\ st.before < 64
 pnil : s.p = [] -> q2c st.before = true
 plast : s.p ≠ [] -> q2c st.before = false /\ s.p.getLast? = some st.before.toNat
 len : st.ss.length = s.cl.length + 1
 pos : ∀ (g : Nat) (sm : Seam), st.ss[g]? = some sm -> sm.1 = ((q02 (s.cl.take g)).length : Int)
 which : ∀ (g : Nat) (sm : Seam), st.ss[g]? = some sm -> ∃ w : Nat, sm.2.1 = (w : Int) /\ w < j /\ sm.1 = (q0h ns w : Int)
 signs : ∀ (g : Nat) (c0 : q11) (w1 : List Nat) (sm : Seam), s.cl[g]? = some c0 -> (s.cl.map (·.1) ++ [s.w])[g + 1]? = some w1 -> st.ss[g + 1]? = some sm -> ∃ l b : Nat, w1.head? = some l /\ c0.2.getLast? = some b /\ isW l = true /\ isW b = false /\ (sm.2.2 = [(l : Int), (b : Int)] ∨ (64 <= b /\ sm.2.2 = [(l : Int)]))
theorem qar {s : CS} {st : SS} {ns : List Int} {j : Nat} (hx : ∀ x ∈ ns, 0 <= x /\ x < 262144) (hj : j < ns.length) (C : Corr s st ns j) :
  Corr ((octN (q0w (ns.getD j 0))).foldl addO s) (q1l j (ns.getD j 0) st) ns (j + 1) := by
 have hr := q24 hx j
 have ef : q02 ((octN (q0w (ns.getD j 0))).foldl addO s).all = octN (q01 (ns.take (j + 1))) := by
  have key : ∀ (l : List Nat) (s : CS), q02 (l.foldl addO s).all = q02 s.all ++ l := by
   intro l
   induction l with
   | nil => intro s; simp
   | cons o r ih => intro s; rw [List.foldl_cons, ih, qan]; simp
  rw [key, C.flat, q0s hj]
  unfold octN
  rw [List.map_append]
 have epl : st.place + upN (ns.getD j 0) + 1 = ((q01 (ns.take (j + 1))).length : Int) := by
  rw [q0s hj, q30 hr, C.place, <- qau]
  simp only [List.length_append, List.length_cons, List.length_nil]; exact Int.add_assoc _ _ _
 have epn : st.place + upN (ns.getD j 0) = (q0h ns j : Int) := by
  unfold q0h
  rw [C.place, <- qau]; exact rfl
 generalize ns.getD j 0 = x at *
 have e0 : octN (q0w x) = octN (hiOf x) ++ [(x % 64).toNat] := by rw [q30 hr]; unfold octN; rw [List.map_append]; rfl
 have hnw := qg6 hr
 have e1 : (octN (q0w x)).foldl addO s = addO ⟨s.cl, s.w, s.p ++ octN (hiOf x)⟩ (x % 64).toNat := by
  rw [e0, List.foldl_append, qfd fun a ha => (hnw a ha).1]; rfl
 rw [e1] at ef ⊢
 have hl := q71 (x := x % 64) (by exact Int.emod_nonneg _ (by decide))
 have hhn : octN (hiOf x) = [] ↔ x < 64 := by unfold octN; rw [List.map_eq_nil_iff]; exact hi_nil
 have hwh : ∀ (g : Nat) (sm : Seam), st.ss[g]? = some sm -> ∃ w : Nat, sm.2.1 = (w : Int) /\ w < j + 1 /\ sm.1 = (q0h ns w : Int) := fun g sm h => by
  (refine q1u (C.which g sm h) fun w h1 h2 h3 => ?_)
  exact ⟨w, h1, by exact Nat.lt_succ_of_lt h2, h3⟩
 have gp2 : ∀ a ∈ s.p ++ octN (hiOf x), isW a = false := fun a ha => (List.mem_append.mp ha).elim (C.gp a) fun h => (hnw a h).1
 cases hs : q2c (x % 64) with
 | false =>
  have es : q1l j x st = ⟨st.ss, st.place + upN x + 1, x % 64⟩ := by unfold q1l; rw [hs]; rfl
  have ea : addO ⟨s.cl, s.w, s.p ++ octN (hiOf x)⟩ (x % 64).toNat = ⟨s.cl, s.w, s.p ++ octN (hiOf x) ++ [(x % 64).toNat]⟩ := by unfold addO; rw [hl, hs, if_neg (by decide)]
  rw [ea] at ef ⊢
  rw [es]
  exact ⟨C.good, C.gw, fun a ha => (List.mem_append.mp ha).elim (gp2 a) fun h => by rw [List.mem_singleton.mp h, hl, hs], ef, epl, ⟨by show 0 <= x % 64; exact Int.emod_nonneg _ (by decide), by show x % 64 < 64; exact Int.emod_lt_of_pos _ (by decide)⟩, fun h => absurd h (by simp), fun _ => ⟨hs, by show (s.p ++ octN (hiOf x) ++ [(x % 64).toNat]).getLast? = _; simp⟩, C.len, C.pos, hwh, C.signs⟩
 | true =>
  by_cases hp : s.p ++ octN (hiOf x) = []
  ·(refine E_a (List.append_eq_nil_iff.mp hp) fun hp1 hp2 => ?_)
   have hx64 := hhn.mp hp2
   have hb := C.pnil hp1
   have es : q1l j x st = ⟨st.ss, st.place + upN x + 1, x % 64⟩ := by unfold q1l; rw [hs, hb, decide_eq_true hx64]; rfl
   have ea : addO ⟨s.cl, s.w, s.p ++ octN (hiOf x)⟩ (x % 64).toNat = ⟨s.cl, s.w ++ [(x % 64).toNat], []⟩ := by unfold addO; rw [hl, hs, if_pos rfl]; dsimp only; rw [if_pos hp]
   rw [ea] at ef ⊢
   rw [es]
   refine ⟨C.good, ⟨by simp, fun a ha => (List.mem_append.mp ha).elim (C.gw.2 a) fun h => by rw [List.mem_singleton.mp h, hl, hs]⟩, (fun a ha => by cases ha), ef, epl, ⟨by show 0 <= x % 64; exact Int.emod_nonneg _ (by decide), by show x % 64 < 64; exact Int.emod_lt_of_pos _ (by decide)⟩, fun _ => hs, fun h => absurd rfl h, C.len, C.pos, hwh, ?_⟩
   intro g c0 w1 sm h0 h1 h2
   dsimp only at h0 h1 h2
   by_cases hg : g + 1 = s.cl.length
   ·have e3 : w1 = s.w ++ [(x % 64).toNat] := by
     rw [List.getElem?_append_right (by simp [hg])] at h1
     simp [hg] at h1; exact h1.symm
    (refine q07 (C.signs g c0 s.w sm h0 (by rw [List.getElem?_append_right (by simp [hg])]; simp [hg]) h2) fun l b k1 k2 => ?_)
    refine ⟨l, b, ?_, k2⟩
    rw [e3]
    cases hw : s.w with
    | nil => exact absurd hw C.gw.1
    | cons a r => rw [hw] at k1; exact k1
   ·have hg1 : g < s.cl.length := (List.getElem?_eq_some_iff.mp h0).1
    have hg2 : g + 1 < (s.cl.map (·.1)).length := by rw [List.length_map]; exact Nat.lt_of_le_of_ne hg1 hg
    exact C.signs g c0 w1 sm h0 (by rw [List.getElem?_append_left hg2] at h1 ⊢; exact h1) h2
  ·have hcond : (q2c (x % 64) && !(decide (x < 64) && q2c st.before)) = true := by
    rw [hs, Bool.true_and]
    by_cases hx64 : x < 64
    ·have hp1 : s.p ≠ [] := fun h => hp (by rw [h, hhn.mpr hx64]; rfl)
     rw [(C.plast hp1).1]; simp
    ·rw [decide_eq_false hx64]; rfl
   have es : q1l j x st = ⟨st.ss ++ [(st.place + upN x, (j : Int), if x < 64 then [x % 64, st.before] else [x % 64])], st.place + upN x + 1, x % 64⟩ := by unfold q1l; rw [hcond]; rfl
   have ea : addO ⟨s.cl, s.w, s.p ++ octN (hiOf x)⟩ (x % 64).toNat = ⟨s.cl ++ [(s.w, s.p ++ octN (hiOf x))], [(x % 64).toNat], []⟩ := by unfold addO; rw [hl, hs, if_pos rfl]; dsimp only; rw [if_neg hp]
   have efc : q02 (s.cl ++ [(s.w, s.p ++ octN (hiOf x))]) = octN (q01 (ns.take j)) ++ octN (hiOf x) := by
    rw [q0x, q21, <- C.flat, q2t]; simp only [List.append_assoc]
   have epf : ((q02 (s.cl ++ [(s.w, s.p ++ octN (hiOf x))])).length : Int) = st.place + upN x := by
    rw [efc, C.place, <- qau]; unfold octN; simp only [List.length_append, List.length_map]; exact rfl
   rw [ea] at ef ⊢
   rw [es]
   have hgx : ∀ g sm, (st.ss ++ [(st.place + upN x, (j : Int), if x < 64 then [x % 64, st.before] else [x % 64])])[g]? = some sm -> (st.ss[g]? = some sm /\ g < st.ss.length) ∨ (g = st.ss.length /\ sm = (st.place + upN x, (j : Int), if x < 64 then [x % 64, st.before] else [x % 64])) := by
    intro g sm h
    by_cases hg : g < st.ss.length
    ·rw [List.getElem?_append_left hg] at h; exact .inl ⟨h, hg⟩
    ·rw [List.getElem?_append_right (by exact Nat.le_of_not_lt hg)] at h
     have : g - st.ss.length = 0 := by
      have := (List.getElem?_eq_some_iff.mp h).1
      simp at this; omega
     rw [this] at h
     exact .inr ⟨by exact o177 hg this, by simpa using h.symm⟩
   refine ⟨?_, ⟨by simp, fun a ha => by rw [List.mem_singleton.mp ha, hl, hs]⟩, (fun a ha => by cases ha), ef, epl, ⟨by show 0 <= x % 64; exact Int.emod_nonneg _ (by decide), by show x % 64 < 64; exact Int.emod_lt_of_pos _ (by decide)⟩, fun _ => hs, fun h => absurd rfl h, by simp [C.len], ?_, ?_, ?_⟩
   ·intro c hc
    rcases List.mem_append.mp hc with h | h
    ·exact C.good c h
    ·rw [List.mem_singleton.mp h]; exact ⟨C.gw.1, C.gw.2, hp, gp2⟩
   ·intro g sm h
    rcases hgx g sm h with ⟨h1, h2⟩ | ⟨h1, h2⟩
    ·have := C.len
     show _ = ((q02 ((s.cl ++ [(s.w, s.p ++ octN (hiOf x))]).take g)).length : Int)
     rw [List.take_append_of_le_length (by exact o218 h2 this)]
     exact C.pos g sm h1
    ·have := C.len
     show _ = ((q02 ((s.cl ++ [(s.w, s.p ++ octN (hiOf x))]).take g)).length : Int)
     rw [List.take_of_length_le (by simp; exact o235 h1 this), epf, h2]
   ·intro g sm h
    rcases hgx g sm h with ⟨h1, h2⟩ | ⟨h1, h2⟩
    ·exact hwh g sm h1
    ·exact ⟨j, by rw [h2], by exact Nat.lt_add_one _, by rw [h2]; exact epn⟩
   ·intro g c0 w1 sm h0 h1 h2
    dsimp only at h0 h1 h2
    have hlen := C.len
    rcases hgx (g + 1) sm h2 with ⟨k1, k2⟩ | ⟨k1, k2⟩
    ·have hg : g < s.cl.length := by exact o245 hlen k2
     rw [List.getElem?_append_left hg] at h0
     refine C.signs g c0 w1 sm h0 ?_ k1
     rw [List.map_append, List.map_singleton] at h1
     rw [List.getElem?_append_left (by simp; exact o245 hlen k2)] at h1
     exact h1
    ·have hg : g = s.cl.length := by exact o246 hlen k1
     have e3 : c0 = (s.w, s.p ++ octN (hiOf x)) := by
      rw [List.getElem?_append_right (by exact o244 hlen k1)] at h0
      simp [hg] at h0; exact h0.symm
     have e4 : w1 = [(x % 64).toNat] := by
      rw [List.getElem?_append_right (by simp [hg])] at h1
      simp [hg] at h1; exact h1.symm
     have hll : ((x % 64).toNat : Int) = x % 64 := by exact o369
     by_cases hx64 : x < 64
     ·have hp1 : s.p ≠ [] := fun h => hp (by rw [h, hhn.mpr hx64]; rfl)
      (refine E_a (C.plast hp1) fun q1 q2 => ?_)
      refine ⟨(x % 64).toNat, st.before.toNat, by rw [e4]; rfl, ?_, by rw [hl, hs], by rw [q71 C.bef.1, q1], .inl ?_⟩
      ·rw [e3, hhn.mpr hx64, List.append_nil]; exact q2
      ·rw [k2]; dsimp only; rw [if_pos hx64, hll, Int.toNat_of_nonneg C.bef.1]
     ·have hne : octN (hiOf x) ≠ [] := fun h => hx64 (hhn.mp h)
      (refine E_e (⟨_, List.getLast?_eq_some_getLast hne⟩ : ∃ b, (octN (hiOf x)).getLast? = some b) fun b hb => ?_)
      have hbm := hnw b (List.mem_of_getLast? hb)
      refine ⟨(x % 64).toNat, b, by rw [e4]; rfl, ?_, by rw [hl, hs], hbm.1, .inr ⟨hbm.2.1, ?_⟩⟩
      ·rw [e3, List.getLast?_append, hb]; rfl
      ·rw [k2]; dsimp only; rw [if_neg hx64, hll]
theorem qc9 {ns : List Int} (h0 : ns.getD 0 0 = 32) (hl : 0 < ns.length) : Corr (csAt ns 1) (q05 ns 1) ns 1 := by
 have e1 : csAt ns 1 = ⟨[], [32], []⟩ := by
  show (octN (q0w (ns.getD 0 0))).foldl addO ⟨[], [], []⟩ = _
  rw [h0]; rfl
 have e2 : q05 ns 1 = ⟨[(0, 0, [32, 0])], 1, 32⟩ := by
  show q1l 0 (ns.getD 0 0) ⟨[], 0, 0⟩ = _
  rw [h0]; rfl
 have e3 : ns.take 1 = [32] := by
  cases ns with
  | nil => cases hl
  | cons a r => have : a = 32 := h0; rw [this]; rfl
 rw [e1, e2]
 refine ⟨(fun c hc => by cases hc), ⟨by simp, by simp; rfl⟩, (fun a ha => by cases ha), by rw [e3]; rfl, by rw [e3]; rfl, ⟨by decide, by decide⟩, fun _ => by decide, fun h => absurd rfl h, rfl, ?_, ?_, ?_⟩
 ·intro g sm h
  cases g with
  | zero => cases (Option.some.inj h); rfl
  | succ g => cases g <;> cases h
 ·intro g sm h
  cases g with
  | zero => cases (Option.some.inj h); exact ⟨0, rfl, by decide, by unfold q0h; rw [h0]; rfl⟩
  | succ g => cases g <;> cases h
 ·intro g c0 w1 sm h
  cases g <;> cases h
theorem q8m {ns : List Int} (hx : ∀ x ∈ ns, 0 <= x /\ x < 262144) (h0 : ns.getD 0 0 = 32) : ∀ j, 0 < j -> j <= ns.length -> Corr (csAt ns j) (q05 ns j) ns j
 | 0, h, _ => absurd h (by decide)
 | 1, _, h => qc9 h0 h
 | j + 2, _, h => qar hx (by exact h) (q8m hx h0 (j + 1) (by exact Nat.succ_pos _) (by exact Nat.lt_of_succ_lt h))
example : True := by
 k_with_none
 k_with "omega" => (first | assumption | exact Nat.le_refl _ | exact Nat.ne_of_lt (by assumption) | exact Nat.ne_of_gt (by assumption) | exact Nat.le_of_lt (by assumption) | lia)
 trivial
noncomputable abbrev Tri := Int × Int × Int
noncomputable def q1t : Tri -> List Tri -> Tri
 | b, [] => b
 | b, v :: vs => q1t (if q0v v b then v else b) vs
theorem qbr (a : Tri) : q0v a a = false := by
 unfold q0v; simp
theorem q4h {a b c : Tri} (h1 : q0v a b = true) (h2 : q0v b c = true) : q0v a c = true := by
 obtain ⟨a1, a2, a3⟩ := a
 obtain ⟨b1, b2, b3⟩ := b
 obtain ⟨c1, c2, c3⟩ := c
 unfold q0v at *
 dsimp only at *
 split at h1 <;> split at h2 <;> (try split at h1) <;> (try split at h2) <;> simp only [decide_eq_true_eq] at h1 h2 <;> split <;> (try split) <;> simp only [decide_eq_true_eq] <;> omega
theorem q9p {a b : Tri} (h : q0v b a = false) : a = b ∨ q0v a b = true := by
 obtain ⟨a1, a2, a3⟩ := a
 obtain ⟨b1, b2, b3⟩ := b
 unfold q0v at h ⊢
 dsimp only at h ⊢
 by_cases e1 : a1 = b1
 ·rw [if_pos e1.symm] at h
  rw [if_pos e1]
  by_cases e2 : a2 = b2
  ·rw [if_pos e2.symm] at h
   rw [if_pos e2]
   rw [decide_eq_false_iff_not] at h
   by_cases e3 : a3 = b3
   ·exact .inl (by rw [e1, e2, e3])
   ·exact .inr (by rw [decide_eq_true_eq]; exact o410 h e3)
  ·rw [if_neg (fun e => e2 e.symm), decide_eq_false_iff_not] at h
   rw [if_neg e2]
   exact .inr (by rw [decide_eq_true_eq]; exact o410 h e2)
 ·rw [if_neg (fun e => e1 e.symm), decide_eq_false_iff_not] at h
  rw [if_neg e1]
  exact .inr (by rw [decide_eq_true_eq]; exact o410 h e1)
theorem q3c : ∀ (vs : List Tri) (b : Tri), q1t b vs ∈ b :: vs /\ ∀ x ∈ b :: vs, q0v x (q1t b vs) = false
 | [], b => ⟨.head _, fun x hx => by rw [List.mem_singleton.mp hx]; exact qbr b⟩
 | v :: vs, b => by
  (refine E_a (q3c vs (if q0v v b then v else b)) fun h1 h2 => ?_)
  show q1t (if q0v v b then v else b) vs ∈ _ /\ ∀ x ∈ _, q0v x (q1t (if q0v v b then v else b) vs) = false
  cases hb : q0v v b with
  | true =>
   rw [hb, if_pos rfl] at h1 h2
   rw [if_pos rfl]
   refine ⟨.tail _ h1, fun x hx => ?_⟩
   rcases List.mem_cons.mp hx with rfl | hx
   ·have h3 := h2 v (.head _)
    cases h4 : q0v x (q1t v vs) with
    | false => rfl
    | true => rw [q4h hb h4] at h3; cases h3
   ·exact h2 x hx
  | false =>
   rw [hb, if_neg (by decide)] at h1 h2
   rw [if_neg (by decide)]
   refine ⟨?_, fun x hx => ?_⟩
   ·rcases List.mem_cons.mp h1 with h | h
    ·rw [h]; exact .head _
    ·exact .tail _ (.tail _ h)
   rcases List.mem_cons.mp hx with rfl | hx
   ·exact h2 x (.head _)
   rcases List.mem_cons.mp hx with rfl | hx
   ·have h3 := h2 b (.head _)
    cases h4 : q0v x (q1t b vs) with
    | false => rfl
    | true =>
     exfalso
     have h5 := q9p h3
     rcases h5 with h5 | h5
     ·rw [h5, hb] at h4; cases h4
     ·rw [q4h h4 h5] at hb; cases hb
   ·exact h2 x (.tail _ hx)
noncomputable def q0j (codes : List Int) (ss : List Seam) (begin : Int) : List Tri :=
 ((ss.flatMap fun sm => sm.2.2.map fun c => (sm, c)).filter fun q => decide (begin < q.1.1) && decide (q.2 ∈ codes)).map fun q => ((codes.idxOf q.2 : Int), -q.1.1, q.1.2.1)
theorem mem_found {codes : List Int} {ss : List Seam} {begin : Int} {t : Tri} : t ∈ q0j codes ss begin ↔ ∃ sm ∈ ss, ∃ c ∈ sm.2.2, begin < sm.1 /\ c ∈ codes /\ t = ((codes.idxOf c : Int), -sm.1, sm.2.1) := by
 unfold q0j
 constructor
 ·intro h
  (refine E_ea (List.mem_map.mp h) fun q hq z1z => ?_; subst z1z)
  (refine E_a (List.mem_filter.mp hq) fun hq1 hq2 => ?_)
  (refine E_ea (List.mem_flatMap.mp hq1) fun sm hsm hq3 => ?_)
  (refine E_ea (List.mem_map.mp hq3) fun c hc z1z => ?_; subst z1z)
  simp only [Bool.and_eq_true, decide_eq_true_eq] at hq2
  exact ⟨sm, hsm, c, hc, hq2.1, hq2.2, rfl⟩
 ·(intro z1y; refine q5r z1y fun sm hsm c hc h1 h2 z2z => ?_; (try clear z1y); subst z2z)
  refine List.mem_map.mpr ⟨(sm, c), List.mem_filter.mpr ⟨List.mem_flatMap.mpr ⟨sm, hsm, List.mem_map.mpr ⟨c, hc, rfl⟩⟩, ?_⟩, rfl⟩
  simp only [Bool.and_eq_true, decide_eq_true_eq]
  exact ⟨h1, h2⟩
structure FO where
 (folds : List Int) (begin room : Int)
noncomputable def q0q (ss : List Seam) (size : Int) : List Int := (ss.drop 1).map (·.1) ++ [size]
noncomputable def q2s (codes : List Int) (wd : Int) (ss : List Seam) (size : Int) (turn : Nat) (st : FO) : FO :=
 if (q0q ss size).getD turn 0 - st.begin > st.room then
  match q0j codes (ss.take (turn + 1)) st.begin with
  | b :: r => ⟨st.folds ++ [(q1t b r).2.2], -(q1t b r).2.1, wd⟩
  | [] => if st.room < wd then ⟨st.folds ++ [(ss.getD turn (0, 0, [])).2.1], (ss.getD turn (0, 0, [])).1, wd⟩ else st
 else st
noncomputable def q17 (codes : List Int) (wd hd : Int) (ss : List Seam) (size : Int) : Nat -> FO
 | 0 => ⟨[], 0, wd - hd⟩
 | t + 1 => q2s codes wd ss size t (q17 codes wd hd ss size t)
noncomputable def q12 (ns : List Int) (wd hd : Int) (codes : List Int) : List Int := (q17 codes wd hd (q05 ns ns.length).ss (q05 ns ns.length).place (q05 ns ns.length).ss.length).folds
structure Mat (cs : List q11) (ss : List Seam) (size : Int) : Prop where
 good : GoodC cs
 len : cs.length = ss.length
 pos : ∀ (g : Nat) (sm : Seam), ss[g]? = some sm -> sm.1 = ((q02 (cs.take g)).length : Int)
 signs : ∀ (g : Nat) (c0 c1 : q11) (sm : Seam), cs[g]? = some c0 -> cs[g + 1]? = some c1 -> ss[g + 1]? = some sm -> ∃ l b : Nat, c1.1.head? = some l /\ c0.2.getLast? = some b /\ isW l = true /\ isW b = false /\ (sm.2.2 = [(l : Int), (b : Int)] ∨ (64 <= b /\ sm.2.2 = [(l : Int)]))
 size : size = ((q02 cs).length : Int)
theorem qc1 {s : CS} {st : SS} {ns : List Int} {j : Nat} (C : Corr s st ns j) (hb : q2c st.before = false) : Mat s.all st.ss st.place := by
 have hp : s.p ≠ [] := fun h => by rw [C.pnil h] at hb; cases hb
 refine ⟨?_, by rw [C.len]; unfold CS.all; simp, ?_, ?_, ?_⟩
 ·intro c hc
  rcases List.mem_append.mp hc with h | h
  ·exact C.good c h
  ·rw [List.mem_singleton.mp h]; exact ⟨C.gw.1, C.gw.2, hp, C.gp⟩
 ·intro g sm h
  have hg := (List.getElem?_eq_some_iff.mp h).1
  have := C.len
  unfold CS.all
  rw [List.take_append_of_le_length (by exact o218 hg this)]
  exact C.pos g sm h
 ·intro g c0 c1 sm h0 h1 h2
  have hg1 : g + 1 < s.all.length := (List.getElem?_eq_some_iff.mp h1).1
  have hg : g < s.cl.length := by unfold CS.all at hg1; simp at hg1; exact hg1
  unfold CS.all at h0 h1
  rw [List.getElem?_append_left hg] at h0
  refine C.signs g c0 c1.1 sm h0 ?_ h2
  have e : (s.cl.map (·.1) ++ [s.w]) = (s.cl ++ [(s.w, s.p)]).map (·.1) := by simp
  rw [e, List.getElem?_map, h1]; rfl
 ·rw [C.flat, C.place]; unfold octN; rw [List.length_map]
theorem qav {l : List Nat} {a : Nat} (h : l.head? = some a) : Txt.item (strL l) 0 = ⟨#[a]⟩ := by
 cases l with
 | nil => cases h
 | cons b r =>
  have e : b = a := Option.some.inj h
  subst e
  unfold Txt.item Txt.charAt seqIndex?
  simp [Str.length]
theorem item_last {l : List Nat} {a : Nat} (h : l.getLast? = some a) : Txt.item (strL l) (-1) = ⟨#[a]⟩ := by
 have hl : 0 < l.length := by cases l with | nil => cases h | cons => simp
 rw [List.getLast?_eq_getElem?] at h
 unfold Txt.item Txt.charAt seqIndex?
 simp only [Str.length, List.size_toArray]
 have e0 : (if (-1 : Int) < 0 then -1 + (l.length : Int) else -1) = (l.length : Int) - 1 := by rw [if_pos (by decide)]; exact Int.add_comm _ _
 rw [e0]
 have e1 : (decide (0 <= (l.length : Int) - 1) && decide ((l.length : Int) - 1 < (l.length : Int))) = true := by
  rw [Bool.and_eq_true, decide_eq_true_eq, decide_eq_true_eq]; exact o23 hl
 rw [if_pos e1]
 have e : ((l.length : Int) - 1).toNat = l.length - 1 := by exact o90
 simp [e, h]
theorem q8b {cs : List q11} {g : Nat} {c : q11} (h : cs[g]? = some c) : (cs.map strC)[g]? = some (strL c.1, strL c.2) := by rw [List.getElem?_map, h]; rfl
theorem qe3 {a b : Nat} : ((⟨#[a]⟩ : Str) == (⟨#[b]⟩ : Str)) = (a == b) := by
 rw [Bool.eq_iff_iff, beq_iff_eq, beq_iff_eq]
 constructor
 ·intro h; injection h with h; simpa using h
 ·rintro rfl; rfl
theorem q7w : Txt.isspace ⟨#[59]⟩ = false /\ Txt.isspace ⟨#[44]⟩ = false /\ Txt.isspace ⟨#[32]⟩ = true /\ Txt.isspace ⟨#[9]⟩ = true := by decide +kernel
theorem qbg {c : Nat} (h : c ∈ [59, 44, 32, 9]) : Txt.isspace ⟨#[c]⟩ = isW c := by
 (refine q2e (q7w) fun h1 h2 h3 h4 => ?_)
 simp only [List.mem_cons, List.not_mem_nil, or_false] at h
 rcases h with rfl | rfl | rfl | rfl
 ·rw [h1]; rfl
 ·rw [h2]; rfl
 ·rw [h3]; rfl
 ·rw [h4]; rfl
theorem q40 {cs : List q11} {ss : List Seam} {size : Int} (M : Mat cs ss size) {a t i c : Nat} {sm : Seam} (hc : c ∈ [59, 44, 32, 9]) (hi : 0 < i) (hit1 : a + i < t) (ht : t <= cs.length) (hs : ss[a + i]? = some sm) :
  hit c (((cs.take t).drop a).map strC) i = true ↔ (c : Int) ∈ sm.2.2 := by
 (refine E_e (⟨_, List.getElem?_eq_getElem (by exact Nat.lt_of_lt_of_le hit1 ht)⟩ : ∃ c1, cs[a + i]? = some c1) fun c1 h1 => ?_)
 (refine E_e (⟨_, List.getElem?_eq_getElem (by exact o266 hit1 ht)⟩ : ∃ c0, cs[a + i - 1]? = some c0) fun c0 h0 => ?_)
 have hh : a + i - 1 + 1 = a + i := by exact o118 hi
 (refine q0g (M.signs (a + i - 1) c0 c1 sm h0 (by rw [hh]; exact h1) (by rw [hh]; exact hs)) fun l b e1 e2 e3 e4 e5 => ?_)
 have g1 : (((cs.take t).drop a).map strC)[i]? = some (strL c1.1, strL c1.2) := q8b (by rw [List.getElem?_drop, List.getElem?_take, if_pos (by exact hit1), h1])
 have g0 : (((cs.take t).drop a).map strC)[i - 1]? = some (strL c0.1, strL c0.2) := q8b (by rw [List.getElem?_drop, List.getElem?_take, if_pos (by exact o205 hit1), show a + (i - 1) = a + i - 1 by exact o119 hi, h0])
 rw [qdu g1 g0, qav e1, item_last e2, qe3, qe3, qbg hc]
 have hcb : c < 64 := by
  simp only [List.mem_cons, List.not_mem_nil, or_false] at hc
  exact o22 hc
 rw [Bool.or_eq_true, Bool.and_eq_true, beq_iff_eq, beq_iff_eq]
 rcases e5 with e5 | ⟨e6, e5⟩ <;> rw [e5] <;> simp only [List.mem_cons, List.not_mem_nil, or_false, Int.ofNat_inj]
 ·constructor
  ·rintro (⟨_, h⟩ | h)
   ·exact .inl h.symm
   ·exact .inr h.symm
  ·rintro (h | h)
   ·exact .inl ⟨by rw [h]; exact e3, h.symm⟩
   ·exact .inr h.symm
 ·constructor
  ·rintro (⟨_, h⟩ | h)
   ·exact h.symm
   ·exact o215 hcb e6 h
  ·intro h
   exact .inl ⟨by rw [h]; exact e3, h.symm⟩
theorem qc4 {cs : List q11} (hg : GoodC cs) {g : Nat} (h : g < cs.length) : (q02 (cs.take g)).length < (q02 (cs.take (g + 1))).length := by
 have e : cs[g]? = some cs[g] := List.getElem?_eq_getElem h
 rw [List.take_add_one, e, q0x]
 have hc := (hg _ (List.getElem_mem h)).1
 show _ < (q02 (cs.take g) ++ q02 [(cs[g].1, cs[g].2)]).length
 rw [q21, List.length_append, List.length_append]
 have := List.length_pos_iff.mpr hc
 omega
theorem q2y {cs : List q11} (hg : GoodC cs) {a g : Nat} (h : a < g) (hl : g <= cs.length) : (q02 (cs.take a)).length < (q02 (cs.take g)).length := by
 induction g with
 | zero => exact absurd h (Nat.not_lt_zero _)
 | succ g ih =>
  have := qc4 hg (g := g) (by exact hl)
  by_cases e : a = g
  ·rw [e]; exact this
  ·exact Nat.lt_trans (ih (by exact o125 h e) (by exact Nat.le_of_lt hl)) this
theorem q8f : ∀ {l : List Int} {j : Nat} {x : Int}, l[j]? = some x -> l.idxOf x <= j
 | [], j, x, h => by cases j <;> cases h
 | y :: l, 0, x, h => by
  have e : y = x := Option.some.inj h
  rw [List.idxOf_cons, e]; simp
 | y :: l, j + 1, x, h => by
  have := q8f (l := l) (j := j) (x := x) (by simpa using h)
  rw [List.idxOf_cons]
  cases y == x with
  | true => simp
  | false => simp; exact this
theorem q97 {cs : List q11} {ss : List Seam} {size : Int} (M : Mat cs ss size) {a t : Nat} {sp : Str} {codes : List Int} (hsp : codes = sp.cps.toList.map Int.ofNat) (hcs : ∀ c ∈ sp.cps.toList, c ∈ [59, 44, 32, 9]) (ha : a < t) (ht : t <= cs.length) :
  (q0j codes (ss.take t) ((q02 (cs.take a)).length : Int) = [] -> q4c (((cs.take t).drop a).map strC) sp.cps.toList = none) /\
  (∀ b r, q0j codes (ss.take t) ((q02 (cs.take a)).length : Int) = b :: r -> ∃ g sm, a < g /\ g < t /\ ss[g]? = some sm /\ (q1t b r).2.2 = sm.2.1 /\ -(q1t b r).2.1 = sm.1 /\ q4c (((cs.take t).drop a).map strC) sp.cps.toList = some (g - a)) := by
 have hcl : ((((cs.take t).drop a).map strC)).length = t - a := by rw [List.length_map, List.length_drop, List.length_take]; exact o227 ht
 have hin : ∀ {g c : Nat} {sm : Seam}, a < g -> g < t -> ss[g]? = some sm -> c ∈ sp.cps.toList -> (c : Int) ∈ sm.2.2 -> ((codes.idxOf (c : Int) : Int), -sm.1, sm.2.1) ∈ q0j codes (ss.take t) ((q02 (cs.take a)).length : Int) := by
  intro g c sm h1 h2 h3 h4 h5
  refine mem_found.mpr ⟨sm, ?_, (c : Int), h5, ?_, ?_, rfl⟩
  ·exact List.mem_of_getElem? (i := g) (by rw [List.getElem?_take, if_pos h2, h3])
  ·rw [M.pos g sm h3]
   have := q2y M.good h1 (show g <= cs.length by exact Nat.le_trans (Nat.le_of_lt h2) ht)
   omega
  ·rw [hsp]; exact List.mem_map.mpr ⟨c, h4, rfl⟩
 have hss : ∀ g, g < t -> ∃ sm, ss[g]? = some sm := fun g h => ⟨_, List.getElem?_eq_getElem (by rw [<- M.len]; exact Nat.lt_of_lt_of_le h ht)⟩
 constructor
 ·intro h
  refine q3f fun c hc => q22 fun i h1 h2 => ?_
  rw [hcl] at h2
  (refine E_e (hss (a + i) (by exact o217 ha h2)) fun sm hsm => ?_)
  cases hh : hit c (((cs.take t).drop a).map strC) i with
  | false => rfl
  | true =>
   have := hin (g := a + i) (by exact Nat.add_lt_add_left h1 _) (by exact o217 ha h2) hsm hc ((q40 M (hcs c hc) h1 (by exact o217 ha h2) ht hsm).mp hh)
   rw [h] at this; cases this
 ·intro b r h
  (refine E_a (q3c r b) fun hb1 hb2 => ?_)
  rw [<- h] at hb1 hb2
  (refine q5r (mem_found.mp hb1) fun sm hsm c' hc' hp hcc e => ?_)
  (refine E_e (List.mem_iff_getElem?.mp hsm) fun g hg => ?_)
  rw [List.getElem?_take] at hg
  split at hg
  case isFalse => cases hg
  rename_i hgt
  have hag : a < g := by
   rw [M.pos g sm hg] at hp
   rcases Nat.lt_trichotomy g a with h1 | h1 | h1
   ·have := q2y M.good h1 (show a <= cs.length by exact Nat.le_of_lt (Nat.lt_of_lt_of_le ha ht))
    exact (o101 hp this).elim
   ·rw [h1] at hp; exact o197 hp
   ·exact h1
  rw [hsp] at hcc
  (refine E_ea (List.mem_map.mp hcc) fun c hcm z1z => ?_; subst z1z)
  have hcm2 : (Int.ofNat c) ∈ codes := by rw [hsp]; exact List.mem_map.mpr ⟨c, hcm, rfl⟩
  refine ⟨g, sm, hag, hgt, hg, by rw [e], by rw [e]; exact Int.neg_neg _, ?_⟩
  have hsc : q3g c (((cs.take t).drop a).map strC) ((((cs.take t).drop a).map strC).length - 1) = some (g - a) := by
   refine q3j (by exact o160 hag) ((q40 M (hcs c hcm) (by exact o160 hag) (by exact o229 hgt hag) ht (by rw [show a + (g - a) = g by exact Nat.add_sub_of_le (Nat.le_of_lt hag)]; exact hg)).mpr hc') (by rw [hcl]; exact o222 hgt) fun j h1 h2 => ?_
   rw [hcl] at h2
   (refine E_e (hss (a + j) (by exact o217 ha h2)) fun sm2 hsm2 => ?_)
   cases hh : hit c (((cs.take t).drop a).map strC) j with
   | false => rfl
   | true =>
    have k1 := hb2 _ (hin (g := a + j) (by exact o210 h1) (by exact o217 ha h2) hsm2 hcm ((q40 M (hcs c hcm) (by exact Nat.lt_of_le_of_lt (Nat.le_add_left _ _) h1) (by exact o217 ha h2) ht hsm2).mp hh))
    rw [e] at k1
    have k2 : sm.1 < sm2.1 := by
     rw [M.pos g sm hg, M.pos (a + j) sm2 hsm2]
     have := q2y M.good (show g < a + j by exact o207 h1) (show a + j <= cs.length by exact o272 ha ht h2)
     omega
    unfold q0v at k1
    rw [if_pos (show ((codes.idxOf (c : Int) : Int), -sm2.1, sm2.2.1).1 = ((codes.idxOf (Int.ofNat c) : Int), -sm.1, sm.2.1).1 from rfl)] at k1
    dsimp only at k1
    rw [if_neg (by exact o406 k2), decide_eq_false_iff_not] at k1
    exact (o408 k1 k2).elim
  have hci : codes[codes.idxOf (Int.ofNat c)]? = some (Int.ofNat c) := by
   rw [List.getElem?_eq_getElem (List.idxOf_lt_length_iff.mpr hcm2)]
   rw [List.getElem_idxOf]
  have hcj : sp.cps.toList[codes.idxOf (Int.ofNat c)]? = some c := by
   have h2 := hci
   generalize codes.idxOf (Int.ofNat c) = k at h2
   rw [hsp, List.getElem?_map] at h2
   cases hq : sp.cps.toList[k]? with
   | none => rw [hq] at h2; cases h2
   | some d => rw [hq] at h2; exact congrArg some (Int.ofNat.inj (Option.some.inj h2))
  refine q3a hsc hcj fun j' d hj hd => ?_
  have hdm : d ∈ sp.cps.toList := List.mem_of_getElem? hd
  have hdx : codes.idxOf (Int.ofNat d) <= j' := by
   exact q8f (by rw [hsp, List.getElem?_map, hd]; rfl)
  refine q22 fun i h1 h2 => ?_
  rw [hcl] at h2
  (refine E_e (hss (a + i) (by exact o217 ha h2)) fun sm2 hsm2 => ?_)
  cases hh : hit d (((cs.take t).drop a).map strC) i with
  | false => rfl
  | true =>
   have k1 := hb2 _ (hin (g := a + i) (by exact Nat.add_lt_add_left h1 _) (by exact o217 ha h2) hsm2 hdm ((q40 M (hcs d hdm) h1 (by exact o217 ha h2) ht hsm2).mp hh))
   rw [e] at k1
   unfold q0v at k1
   have k3 : codes.idxOf (d : Int) < codes.idxOf (Int.ofNat c) := by
    have : codes.idxOf (d : Int) = codes.idxOf (Int.ofNat d) := rfl
    omega
   dsimp only at k1
   rw [if_neg (by exact o141 k3), decide_eq_false_iff_not] at k1
   exact (o174 k1 k3).elim
theorem q5c (sep : Str) : ∀ (ps : List Str) (a : Array Nat), (ps.foldl (fun acc p => acc ++ sep.cps ++ p.cps) a).toList = a.toList ++ ps.flatMap fun p : Str => sep.cps.toList ++ p.cps.toList
 | [], a => by simp
 | p :: ps, a => by
  rw [List.foldl_cons, q5c sep ps, List.flatMap_cons]
  simp [List.append_assoc]
theorem join_list (sep : Str) (x : Str) (xs : List Str) : (Txt.join sep (x :: xs)).cps.toList = x.cps.toList ++ xs.flatMap fun p : Str => sep.cps.toList ++ p.cps.toList := by
 show ((List.foldl (fun (acc : Array Nat) (p : Str) => acc ++ sep.cps ++ p.cps) _ _) : Array Nat).toList = _
 rw [q5c]; rfl
theorem q1f (x : Str) : x = strL x.cps.toList := by cases x; simp
theorem q3b (xs : List Str) : Txt.join "" xs = strL (xs.flatMap fun p : Str => p.cps.toList) := by
 cases xs with
 | nil => rfl
 | cons x xs =>
  rw [q1f (Txt.join "" (x :: xs)), join_list, List.flatMap_cons]
  have e : ((Str.ofString "").cps.toList) = [] := by decide
  rw [e]
  simp
theorem qdd (c : q11) : (cat1 (strC c)).cps.toList = c.1 ++ c.2 := by
 show ((strL c.1).cps ++ (strL c.2).cps).toList = _
 simp
theorem q34 (cs : List q11) : q0m (cs.map strC) = strL (q02 cs) := by
 show Txt.join "" ((cs.map strC).map cat1) = _
 rw [q3b]
 congr 1
 congr 1
 induction cs with
 | nil => rfl
 | cons c r ih =>
  rw [List.map_cons, List.map_cons, List.flatMap_cons, ih, qdd]
  obtain ⟨w, p⟩ := c
  rw [q19, List.append_assoc]
theorem qam (cs : List q11) : csum (cs.map strC) = ((q02 cs).length : Int) := q4o cs
structure Sim (cs : List q11) (ss : List Seam) (size wd hd : Int) (sp : Str) (codes : List Int) (t : Nat) (cuts : List Nat) : Prop where
 sorted : cuts.Pairwise (· < ·)
 lt : ∀ c ∈ cuts, c < t
 le : ∀ c ∈ cuts, c <= (slSt cs cuts).2
 last : (slSt cs cuts).2 <= t
 nil : cuts = [] -> (slSt cs cuts).2 = 0
 fs : fsAt wd sp hd cs t = ⟨(slSt cs cuts).1.map (fun seg => q0m (seg.map strC)), ((cs.take t).drop (slSt cs cuts).2).map strC, if cuts = [] then hd else 0⟩
 fo : q17 codes wd hd ss size t = ⟨cuts.map (fun g => (ss.getD g (0, 0, [])).2.1), ((q02 (cs.take (slSt cs cuts).2)).length : Int), if cuts = [] then wd - hd else wd⟩
theorem qcl {cs : List q11} {ss : List Seam} {size wd hd : Int} {sp : Str} {codes : List Int} (M : Mat cs ss size) (hsp : codes = sp.cps.toList.map Int.ofNat) (hcs : ∀ c ∈ sp.cps.toList, c ∈ [59, 44, 32, 9]) (h0 : 0 <= hd) {t : Nat} {cuts : List Nat} (ht : t < cs.length)
  (S : Sim cs ss size wd hd sp codes t cuts) : ∃ cuts', Sim cs ss size wd hd sp codes (t + 1) cuts' := by
 (refine E_e (⟨_, List.getElem?_eq_getElem ht⟩ : ∃ c, cs[t]? = some c) fun c hc => ?_)
 have ea : ((cs.take t).drop (slSt cs cuts).2).map strC ++ [strC c] = ((cs.take (t + 1)).drop (slSt cs cuts).2).map strC := by
  rw [List.take_add_one, hc, List.drop_append_of_le_length (by rw [List.length_take]; have := S.last; omega), List.map_append]; rfl
 have hsum : csum (((cs.take (t + 1)).drop (slSt cs cuts).2).map strC) = ((q02 (cs.take (t + 1))).length : Int) - ((q02 (cs.take (slSt cs cuts).2)).length : Int) := by
  have h1 : q02 (cs.take (t + 1)) = q02 (cs.take (slSt cs cuts).2) ++ q02 ((cs.take (t + 1)).drop (slSt cs cuts).2) := by
   rw [<- q0x]
   congr 1
   have h2 := List.take_append_drop (slSt cs cuts).2 (cs.take (t + 1))
   rw [List.take_take, Nat.min_eq_left (by have := S.last; omega)] at h2
   exact h2.symm
  rw [qam, h1, List.length_append]; omega
 have hends : (q0q ss size).getD t 0 = ((q02 (cs.take (t + 1))).length : Int) := by
  unfold q0q
  have hl := M.len
  by_cases e : t + 1 < cs.length
  ·(refine E_e (⟨_, List.getElem?_eq_getElem (by exact o248 hl e)⟩ : ∃ sm, ss[t + 1]? = some sm) fun sm hsm => ?_)
   rw [<- M.pos (t + 1) sm hsm, List.getD_eq_getElem?_getD, List.getElem?_append_left (by simp; exact o249 hl e), List.getElem?_map, List.getElem?_drop, show 1 + t = t + 1 by exact Nat.add_comm _ _, hsm]; rfl
  ·rw [List.getD_eq_getElem?_getD, List.getElem?_append_right (by simp; exact o247 hl e), List.take_of_length_le (by exact Nat.le_of_not_lt e), <- M.size]
   have : t - (List.map (fun x : Seam => x.1) (List.drop 1 ss)).length = 0 := by simp; exact o219 ht hl
   rw [this]; rfl
 (refine E_e (⟨_, List.getElem?_eq_getElem (by rw [<- M.len]; exact ht)⟩ : ∃ sm, ss[t]? = some sm) fun smt hsmt => ?_)
 have hgt : ss.getD t (0, 0, []) = smt := by rw [List.getD_eq_getElem?_getD, hsmt]; rfl
 have hfs : fsAt wd sp hd cs (t + 1) = q1m wd sp (fsAt wd sp hd cs t) (strC c) := q2w hc
 have hfo : q17 codes wd hd ss size (t + 1) = q2s codes wd ss size t (q17 codes wd hd ss size t) := rfl
 rw [S.fs] at hfs
 rw [S.fo] at hfo
 unfold q1m at hfs
 unfold q2s at hfo
 dsimp only at hfs hfo
 rw [ea, hsum] at hfs
 rw [hends] at hfo
 (refine E_a (q97 M (a := (slSt cs cuts).2) (t := t + 1) hsp hcs (by have := S.last; omega) ht) fun hn hm => ?_)
 have stay : fsAt wd sp hd cs (t + 1) = ⟨(slSt cs cuts).1.map (fun seg => q0m (seg.map strC)), ((cs.take (t + 1)).drop (slSt cs cuts).2).map strC, if cuts = [] then hd else 0⟩ -> q17 codes wd hd ss size (t + 1) = ⟨cuts.map (fun g => (ss.getD g (0, 0, [])).2.1), ((q02 (cs.take (slSt cs cuts).2)).length : Int), if cuts = [] then wd - hd else wd⟩ -> ∃ cuts', Sim cs ss size wd hd sp codes (t + 1) cuts' := fun h1 h2 =>
  ⟨cuts, S.sorted, fun c hc => by have := S.lt c hc; omega, S.le, by have := S.last; omega, S.nil, h1, h2⟩
 by_cases hov : ((q02 (cs.take (t + 1))).length : Int) - ((q02 (cs.take (slSt cs cuts).2)).length : Int) > (if cuts = [] then wd - hd else wd)
 ·have hov2 : (if cuts = [] then hd else 0) + (((q02 (cs.take (t + 1))).length : Int) - ((q02 (cs.take (slSt cs cuts).2)).length : Int)) > wd := by
   split at hov <;> rename_i h
   ·rw [if_pos h]; exact o387 hov
   ·rw [if_neg h]; exact o284 hov
  rw [if_pos hov] at hfo
  rw [if_pos hov2] at hfs
  cases hf : q0j codes (ss.take (t + 1)) ((q02 (cs.take (slSt cs cuts).2)).length : Int) with
  | nil =>
   rw [hf] at hfo
   rw [hn hf] at hfs
   dsimp only at hfo hfs
   by_cases hcu : cuts = []
   ·rw [if_pos hcu] at hfo hfs
    by_cases hh : hd > 0
    ·rw [if_pos hh] at hfs
     rw [if_pos (by exact o407 hh)] at hfo
     refine ⟨[t], ?_⟩
     have h2 := S.nil hcu
     have e1 : slSt cs [t] = ([cs.take t], t) := rfl
     refine ⟨by simp, fun c hc => by rw [List.mem_singleton.mp hc]; exact Nat.lt_add_one _, fun c hc => by rw [List.mem_singleton.mp hc, e1]; exact Nat.le_refl _, by rw [e1]; exact Nat.le_succ t, (fun h => by cases h), ?_, ?_⟩
     ·rw [hfs, hcu, e1, if_neg (by simp)]
      show FS.mk ([] ++ [q0m (((cs.take t).drop 0).map strC)]) [strC c] 0 = _
      have e9 : (cs.take (t + 1)).drop t = [c] := by rw [List.take_add_one, hc, List.drop_append_of_le_length (by rw [List.length_take]; exact o139 ht), List.drop_of_length_le (by rw [List.length_take]; exact o188)]; rfl
      rw [e9, List.drop_zero]; rfl
     ·rw [hfo, hcu, e1, if_neg (by simp), hgt]
      rw [M.pos t smt hsmt]
      simp [hsmt]
    ·rw [if_neg hh] at hfs
     rw [if_neg (by exact o411 hh)] at hfo
     exact stay (by rw [hfs, if_pos hcu]) (by rw [hfo, if_pos hcu])
   ·rw [if_neg hcu] at hfo hfs
    rw [if_neg (by decide)] at hfs
    rw [if_neg (by exact o384)] at hfo
    exact stay (by rw [hfs, if_neg hcu]) (by rw [hfo, if_neg hcu])
  | cons b r =>
   (refine q00 (hm b r hf) fun g sm hg1 hg2 hsm e1 e2 e3 => ?_)
   rw [hf] at hfo
   rw [e3] at hfs
   dsimp only at hfo hfs
   rw [e1, e2] at hfo
   refine ⟨cuts ++ [g], ?_⟩
   refine ⟨?_, ?_, ?_, ?_, fun h => absurd h (by simp), ?_, ?_⟩
   ·rw [List.pairwise_append]
    exact ⟨S.sorted, by simp, fun x hx y hy => by rw [List.mem_singleton.mp hy]; have := S.le x hx; omega⟩
   ·intro x hx
    rcases List.mem_append.mp hx with h | h
    ·have := S.lt x h; omega
    ·rw [List.mem_singleton.mp h]; exact hg2
   ·intro x hx
    rw [q0p]
    show x <= g
    rcases List.mem_append.mp hx with h | h
    ·have := S.le x h; omega
    ·rw [List.mem_singleton.mp h]; exact Nat.le_refl _
   ·rw [q0p]; exact Nat.le_of_lt hg2
   ·rw [hfs, q0p, if_neg (by simp), List.map_append, List.map_singleton]
    dsimp only
    rw [<- List.map_take, <- List.map_drop, List.drop_drop]
    have k1 : ((cs.take (t + 1)).drop (slSt cs cuts).2).take (g - (slSt cs cuts).2) = (cs.take g).drop (slSt cs cuts).2 := by
     rw [List.take_drop, List.take_take]
     congr 2
     exact o216 hg1 hg2
    have k2 : (slSt cs cuts).2 + (g - (slSt cs cuts).2) = g := by exact Nat.add_sub_of_le (Nat.le_of_lt hg1)
    rw [k1, k2]
   ·rw [hfo, q0p, if_neg (by simp), M.pos g sm hsm, List.map_append, List.map_singleton]
    have : ss.getD g (0, 0, []) = sm := by rw [List.getD_eq_getElem?_getD, hsm]; rfl
    rw [this]
 ·have hov2 : ¬ (if cuts = [] then hd else 0) + (((q02 (cs.take (t + 1))).length : Int) - ((q02 (cs.take (slSt cs cuts).2)).length : Int)) > wd := by
   split at hov <;> rename_i h
   ·rw [if_pos h]; exact o388 hov
   ·rw [if_neg h]; exact o287 hov
  rw [if_neg hov] at hfo
  rw [if_neg hov2] at hfs
  exact stay hfs hfo
theorem qb4 {cs : List q11} {ss : List Seam} {size wd hd : Int} {sp : Str} {codes : List Int} (M : Mat cs ss size) (hsp : codes = sp.cps.toList.map Int.ofNat) (hcs : ∀ c ∈ sp.cps.toList, c ∈ [59, 44, 32, 9]) (h0 : 0 <= hd) : ∀ t, t <= cs.length -> ∃ cuts, Sim cs ss size wd hd sp codes t cuts
 | 0, _ => ⟨[], by simp, (fun c hc => by cases hc), (fun c hc => by cases hc), Nat.le_refl _, fun _ => rfl, rfl, rfl⟩
 | t + 1, h => by
  obtain ⟨cuts, S⟩ := qb4 M hsp hcs h0 t (by exact Nat.le_of_lt h)
  exact qcl M hsp hcs h0 h S
theorem q3x {α : Type} {P : List α -> Prop} (h0 : P []) (h1 : ∀ l a, P l -> P (l ++ [a])) (l : List α) : P l := by
 rw [<- List.reverse_reverse l]
 induction l.reverse with
 | nil => exact h0
 | cons a r ih => rw [List.reverse_cons]; exact h1 _ _ ih
theorem qf7 {cs : List q11} : ∀ {cuts : List Nat}, cuts.Pairwise (· < ·) -> (∀ c ∈ cuts, c <= cs.length) -> (slSt cs cuts).1.map q02 = (slSt (q02 cs) (cuts.map fun g => (q02 (cs.take g)).length)).1 /\ (slSt (q02 cs) (cuts.map fun g => (q02 (cs.take g)).length)).2 = (q02 (cs.take (slSt cs cuts).2)).length /\ (∀ c, (∀ x ∈ cuts, x < c) -> (slSt cs cuts).2 <= c) := by
 intro cuts
 refine q3x (P := fun cuts => cuts.Pairwise (· < ·) -> (∀ c ∈ cuts, c <= cs.length) -> (slSt cs cuts).1.map q02 = (slSt (q02 cs) (cuts.map fun g => (q02 (cs.take g)).length)).1 /\ (slSt (q02 cs) (cuts.map fun g => (q02 (cs.take g)).length)).2 = (q02 (cs.take (slSt cs cuts).2)).length /\ (∀ c, (∀ x ∈ cuts, x < c) -> (slSt cs cuts).2 <= c)) ?_ ?_ cuts
 ·intro _ _; exact ⟨rfl, rfl, fun c _ => Nat.zero_le c⟩
 ·intro cuts g ih h1 h2
  rw [List.pairwise_append] at h1
  (refine E_aa (ih h1.1 fun c hc => h2 c (List.mem_append_left _ hc)) fun i1 i2 i3 => ?_)
  have hle := i3 g fun x hx => h1.2.2 x hx g (.head _)
  have hg := h2 g (List.mem_append_right _ (.head _))
  rw [List.map_append, List.map_singleton, q0p, q0p, List.map_append, List.map_singleton, i1, i2]
  refine ⟨?_, rfl, fun c hc => Nat.le_of_lt (hc g (List.mem_append_right _ (.head _)))⟩
  dsimp only
  congr 2
  have e1 : (q02 cs).take (q02 (cs.take g)).length = q02 (cs.take g) := by
   conv => lhs; arg 2; rw [<- List.take_append_drop g cs, q0x]
   exact List.take_left' rfl
  rw [e1]
  have e2 : q02 (cs.take g) = q02 (cs.take (slSt cs cuts).2) ++ q02 ((cs.take g).drop (slSt cs cuts).2) := by
   rw [<- q0x]
   congr 1
   have h2 := List.take_append_drop (slSt cs cuts).2 (cs.take g)
   rw [List.take_take, Nat.min_eq_left hle] at h2
   exact h2.symm
  rw [e2, List.drop_left' rfl]
theorem qao {ns : List Int} {w w' : Nat} (h : w < w') (hl : w' <= ns.length) (hx : ∀ x ∈ ns, 0 <= x /\ x < 262144) : q0h ns w < (q01 (ns.take w')).length := by
 have e1 : (q01 (ns.take (w + 1))).length = q0h ns w + 1 := by
  rw [q0s (by exact Nat.lt_of_lt_of_le h hl), q30 (q24 hx w)]
  unfold q0h
  simp only [List.length_append, List.length_cons, List.length_nil]; exact Nat.add_zero _
 have e2 : q01 (ns.take w') = q01 (ns.take (w + 1)) ++ q01 ((ns.take w').drop (w + 1)) := by
  rw [<- q1a]
  congr 1
  have h2 := List.take_append_drop (w + 1) (ns.take w')
  rw [List.take_take, Nat.min_eq_left (by exact h)] at h2
  exact h2.symm
 rw [e2, List.length_append]; omega
theorem q7p {ns : List Int} {w w' : Nat} (h : w <= w') (hl : w' <= ns.length) (hx : ∀ x ∈ ns, 0 <= x /\ x < 262144) : q0h ns w <= q0h ns w' := by
 rcases Nat.lt_or_ge w w' with h1 | h1
 ·have := qao h1 hl hx
  unfold q0h at this ⊢; omega
 ·rw [show w = w' by exact Nat.le_antisymm h h1]; exact Nat.le_refl _
theorem qd7 {α : Type} (text : List α) (cuts : List Nat) : (slSt text cuts).2 = 0 ∨ (slSt text cuts).2 ∈ cuts := by
 refine q3x (P := fun cuts => (slSt text cuts).2 = 0 ∨ (slSt text cuts).2 ∈ cuts) (.inl rfl) (fun l a _ => ?_) cuts
 rw [q0p]; exact .inr (by simp)
theorem qca {α β : Type} (f : α -> β) (text : List α) (ps : List Nat) : slSt (text.map f) ps = ((slSt text ps).1.map (·.map f), (slSt text ps).2) := by
 refine q3x (P := fun ps => slSt (text.map f) ps = ((slSt text ps).1.map (·.map f), (slSt text ps).2)) rfl (fun l a ih => ?_) ps
 rw [q0p, q0p, ih]
 simp [List.map_drop, List.map_take]
theorem qf3 {α β : Type} (f : α -> β) (text : List α) (ps : List Nat) : q1n (text.map f) ps = (q1n text ps).map (·.map f) := by
 unfold q1n
 rw [qca]; simp [List.map_drop]
theorem qd1 {α : Type} (text : List α) : ∀ ps : List Nat, ps.Pairwise (· < ·) -> (slSt text ps).1.flatten = text.take (slSt text ps).2 /\ ∀ c, (∀ x ∈ ps, x < c) -> (slSt text ps).2 <= c := by
 intro ps
 refine q3x (P := fun ps => ps.Pairwise (· < ·) -> (slSt text ps).1.flatten = text.take (slSt text ps).2 /\ ∀ c, (∀ x ∈ ps, x < c) -> (slSt text ps).2 <= c) (fun _ => ⟨rfl, fun _ _ => Nat.zero_le _⟩) (fun l a ih h => ?_) ps
 rw [List.pairwise_append] at h
 (refine E_a (ih h.1) fun i1 i2 => ?_)
 rw [q0p]
 refine ⟨?_, fun c hc => Nat.le_of_lt (hc a (by simp))⟩
 have hle := i2 a fun x hx => h.2.2 x hx a (.head _)
 rw [List.flatten_append, i1]
 have h2 := List.take_append_drop (slSt text l).2 (text.take a)
 rw [List.take_take, Nat.min_eq_left hle] at h2
 simpa using h2
theorem qd8 {α : Type} (text : List α) (ps : List Nat) (h : ps.Pairwise (· < ·)) : (q1n text ps).flatten = text := by
 unfold q1n
 rw [List.flatten_append, (qd1 text ps h).1]
 simp
theorem q88 {α : Type} {a : List α} {b : List α} {x : α} (h : b.getLast? = some x) : (a ++ b).getLast? = some x := by rw [List.getLast?_append, h]; rfl
theorem q6s {α : Type} {l : List α} {x : α} {a : Nat} (h : l.getLast? = some x) (ha : a < l.length) : ∃ i, l.drop a = i ++ [x] := by
 have h1 : (l.drop a) ≠ [] := by simp; exact ha
 rcases q7t (l.drop a) with e | ⟨i, v, e⟩
 ·exact absurd e h1
 have h2 : (l.drop a).getLast? = some x := by rw [List.getLast?_drop, if_neg (by exact Nat.not_le.mpr ha), h]
 rw [e] at h2
 have h3 : v = x := by simpa using h2
 exact ⟨i, by rw [e, h3]⟩
theorem qbj {ns : List Int} (hx : ∀ x ∈ ns, 0 <= x /\ x < 262144) (h0 : ns.getD 0 0 = 32) (hn : 0 < ns.length) (hl : ns.getLast? = some 33) {wd hd : Int} (hh : 0 <= hd) {sp : Str} {codes : List Int} (hsp : codes = sp.cps.toList.map Int.ofNat) (hcs : ∀ c ∈ sp.cps.toList, c ∈ [59, 44, 32, 9]) :
  ∃ cs : List q11, GoodC cs /\ cs ≠ [] /\ q02 cs = octN (q01 ns) /\
   (∃ (si : List q11) (cl : q11), (fsAt wd sp hd cs cs.length).chs = si.map strC ++ [strC cl] /\ cl ∈ cs /\ cl.2.getLast? = some 33) /\
   ∃ rs : List (List Nat), (fsAt wd sp hd cs cs.length).rows ++ [q0m (fsAt wd sp hd cs cs.length).chs] = rs.map strL /\ rs.flatten = octN (q01 ns) /\
    rs.map (· ++ [0]) = (q60 ns (q12 ns wd hd codes)).map (fun z => octN (q01 z)) /\ ∀ r ∈ q60 ns (q12 ns wd hd codes), ∀ x ∈ r, 0 <= x /\ x < 262144 := by
 have C := q8m hx h0 ns.length hn (Nat.le_refl _)
 (refine E_e (⟨ns.length - 1, by exact o24 hn⟩ : ∃ k, ns.length = k + 1) fun k hk => ?_)
 have hgl : ns.getD k 0 = 33 := by
  rw [List.getLast?_eq_getElem?, hk, show k + 1 - 1 = k by exact Nat.add_sub_cancel _ _] at hl
  rw [List.getD_eq_getElem?_getD, hl]; rfl
 have hb : q2c (q05 ns ns.length).before = false := by
  rw [hk]
  show q2c (q1l k (ns.getD k 0) (q05 ns k)).before = false
  rw [hgl]; rfl
 have M := qc1 C hb
 have hflat : q02 (csAt ns ns.length).all = octN (q01 ns) := by rw [C.flat, List.take_length]
 have hw := C.which
 generalize hcs9 : (csAt ns ns.length).all = cs at M hflat
 have hcl : (q02 cs).getLast? = some 33 := by
  rw [hflat, q87 ns k, List.drop_eq_getElem_cons (by exact o163 hk), List.drop_of_length_le (by exact o143 hk)]
  rw [show ns[k]'(by exact o163 hk) = 33 by rw [List.getD_eq_getElem?_getD, List.getElem?_eq_getElem (by exact o163 hk)] at hgl; exact hgl]
  unfold octN
  rw [List.map_append]
  exact q88 rfl
 have hne : cs ≠ [] := fun h => by rw [h] at hcl; cases hcl
 have hclen : 0 < cs.length := List.length_pos_iff.mpr hne
 obtain ⟨cuts, S⟩ := qb4 M hsp hcs hh cs.length (Nat.le_refl _)
 have hF : q12 ns wd hd codes = (q17 codes wd hd (q05 ns ns.length).ss (q05 ns ns.length).place cs.length).folds := by
  unfold q12; rw [M.len]
 rw [S.fo] at hF
 dsimp only at hF
 generalize hss : (q05 ns ns.length).ss = ss at M hw S hF
 have hwg : ∀ g, g < cs.length -> ∃ w : Nat, (ss.getD g (0, 0, [])).2.1 = (w : Int) /\ w < ns.length /\ (q02 (cs.take g)).length = q0h ns w := by
  intro g hg
  (refine E_e (⟨_, List.getElem?_eq_getElem (by rw [<- M.len]; exact hg)⟩ : ∃ sm, ss[g]? = some sm) fun sm hsm => ?_)
  (refine q1u (hw g sm hsm) fun w h1 h2 h3 => ?_)
  refine ⟨w, by rw [List.getD_eq_getElem?_getD, hsm]; exact h1, h2, ?_⟩
  have := M.pos g sm hsm
  omega
 have hW : q12 ns wd hd codes = (cuts.map fun g => (ss.getD g (0, 0, [])).2.1.toNat).map Int.ofNat := by
  rw [hF, List.map_map]
  refine List.map_congr_left fun g hg => ?_
  (refine E_ea (hwg g (S.lt g hg)) fun w h1 _ => ?_)
  show _ = Int.ofNat (ss.getD g (0, 0, [])).2.1.toNat
  rw [h1]; rfl
 have hsort : (cuts.map fun g => (ss.getD g (0, 0, [])).2.1.toNat).Pairwise (· < ·) := by
  rw [List.pairwise_map]
  refine List.Pairwise.imp_of_mem (fun {a b} ha hb hab => ?_) S.sorted
  (refine q1u (hwg a (S.lt a ha)) fun w1 e1 l1 p1 => ?_)
  (refine q1u (hwg b (S.lt b hb)) fun w2 e2 l2 p2 => ?_)
  rw [e1, e2]
  show w1 < w2
  have hp := q2y M.good hab (Nat.le_of_lt (S.lt b hb))
  rcases Nat.lt_or_ge w1 w2 with h | h
  ·exact h
  ·have := q7p h (Nat.le_of_lt l1) hx
   exact (o273 p1 p2 hp this).elim
 have hplace : (cuts.map fun g => (ss.getD g (0, 0, [])).2.1.toNat).map (q0h ns) = cuts.map fun g => (q02 (cs.take g)).length := by
  rw [List.map_map]
  refine List.map_congr_left fun g hg => ?_
  (refine q1u (hwg g (S.lt g hg)) fun w h1 _ h3 => ?_)
  show q0h ns (ss.getD g (0, 0, [])).2.1.toNat = _
  rw [h1, h3]; rfl
 have hlt : ∀ w ∈ (cuts.map fun g => (ss.getD g (0, 0, [])).2.1.toNat), w < ns.length := by
  intro w hw2
  (refine E_ea (List.mem_map.mp hw2) fun g hg z1z => ?_; subst z1z)
  (refine q1u (hwg g (S.lt g hg)) fun w h1 h2 _ => ?_)
  rw [h1]; exact h2
 (refine E_a (qeg hx hsort hlt) fun d1 d2 => ?_)
 rw [<- hW] at d1 d2
 rw [hplace] at d1
 (refine E_aa (qf7 (cs := cs) S.sorted fun c hc => Nat.le_of_lt (S.lt c hc)) fun f1 f2 _ => ?_)
 have ha : (slSt cs cuts).2 < cs.length := by
  rcases qd7 cs cuts with h | h
  ·rw [h]; exact hclen
  ·exact S.lt _ h
 have hposs : (cuts.map fun g => (q02 (cs.take g)).length).Pairwise (· < ·) := by
  rw [List.pairwise_map]
  exact List.Pairwise.imp_of_mem (fun {a b} ha hb hab => q2y M.good hab (Nat.le_of_lt (S.lt b hb))) S.sorted
 refine ⟨cs, M.good, hne, hflat, ?_, q1n (octN (q01 ns)) (cuts.map fun g => (q02 (cs.take g)).length), ?_, qd8 _ _ hposs, ?_, d2⟩
 ·(refine E_e (⟨_, List.getLast?_eq_some_getLast hne⟩ : ∃ cl, cs.getLast? = some cl) fun cl hcl2 => ?_)
  (refine E_e (q6s hcl2 ha) fun i hi => ?_)
  refine ⟨i, cl, ?_, List.mem_of_getLast? hcl2, ?_⟩
  ·rw [S.fs]; dsimp only
   rw [List.take_length, hi, List.map_append, List.map_singleton]
  ·(refine E_e (q6s hcl2 hclen) fun j hj => ?_)
   rw [List.drop_zero] at hj
   rw [hj, q0x] at hcl
   obtain ⟨w, p⟩ := cl
   rw [q21] at hcl
   have hp := (M.good (w, p) (by rw [hj]; simp)).2.2.1
   rw [<- List.append_assoc, List.getLast?_append] at hcl
   cases hq : p.getLast? with
   | none => rw [List.getLast?_eq_none_iff] at hq; exact absurd hq hp
   | some z => rw [hq] at hcl; exact hcl
 ·rw [S.fs]; dsimp only
  rw [List.take_length, q34]
  unfold q1n
  rw [<- hflat, <- f1, f2, List.map_append, List.map_singleton, List.map_map]
  congr 1
  ·refine List.map_congr_left fun seg _ => ?_
   exact q34 seg
  ·have e : (q02 cs).drop (q02 (cs.take (slSt cs cuts).2)).length = q02 (cs.drop (slSt cs cuts).2) := by
    conv => lhs; arg 2; rw [<- List.take_append_drop (slSt cs cuts).2 cs, q0x]
    exact List.drop_left' rfl
   rw [e]
 ·have h9 := congrArg (List.map octN) d1
  rw [List.map_map, List.map_map] at h9
  show _ = List.map (octN ∘ q01) _
  rw [h9]
  unfold octN
  rw [qf3, List.map_map]
  refine List.map_congr_left fun z _ => ?_
  show List.map Int.toNat z ++ [0] = List.map Int.toNat (z ++ [0])
  rw [List.map_append]; rfl
theorem qaz (x : Int) : 0 <= numOf x /\ numOf x < 262144 := by
 unfold numOf
 have e1 : ∀ a : Int, a.fmod 4096 = a % 4096 := fun a => Int.fmod_eq_emod_of_nonneg _ (by decide)
 have e2 : ∀ a : Int, a.fmod 262144 = a % 262144 := fun a => Int.fmod_eq_emod_of_nonneg _ (by decide)
 have e3 : x.fmod 6 = x % 6 := Int.fmod_eq_emod_of_nonneg _ (by decide)
 rw [e1, e2, e3]
 split
 ·have h : ∀ k : Nat, 0 <= ([32, 9, 44, 59] : List Int).getD k 0 /\ ([32, 9, 44, 59] : List Int).getD k 0 < 64 := by
   intro k
   match k with
   | 0 => decide
   | 1 => decide
   | 2 => decide
   | 3 => decide
   | k + 4 => exact ⟨Int.le_refl _, show (0 : Int) < 64 by decide⟩
  have := h (x % 6).toNat
  omega
 ·omega
theorem q92 (ns : List Int) : ∀ x ∈ numsOf ns, 0 <= x /\ x < 262144 := by
 intro x hx
 unfold numsOf at hx
 rcases List.mem_append.mp hx with h | h
 ·rcases List.mem_cons.mp h with rfl | h
  ·decide
  ·(refine E_ea (List.mem_map.mp h) fun y _ z1z => ?_; subst z1z)
   exact qaz y
 ·simp only [List.mem_cons, List.not_mem_nil, or_false] at h
  rcases h with rfl | rfl | rfl | rfl | rfl | rfl | rfl | rfl | rfl <;> decide
theorem qda (ns : List Int) : (numsOf ns).length <= 16 /\ 0 < (numsOf ns).length := by
 unfold numsOf
 simp only [List.length_append, List.length_cons, List.length_map, List.length_take, List.length_nil]
 exact o65
theorem qas (ns : List Int) : (numsOf ns).getLast? = some 33 := by
 unfold numsOf; exact q88 rfl
example : True := by
 k_with_none
 trivial
section
section
variable {prog : Program} {w : World} {A : Around} {R : Result -> Shared -> Prop}
theorem qb9 {E : Value -> Shared -> Prop} {s : Shared} {h₀ : Heap} {L l : Addr} {m : Str -> Option Value} {news : List (Addr × Obj)} {v0 : Value} {rest : List Value} {Q : Value -> Shared -> Prop} (lt : Value -> Value -> Bool) (hh : A.in1.handled = none)
  (F : Fr h₀ L s.heap m) (N : News h₀ L s.heap news) (hL : s.heap.IsList l (v0 :: rest).toArray)
  (hcmp : ∀ u v (s' : Shared) (Q E : Value -> Shared -> Prop), u ∈ v0 :: rest -> v ∈ v0 :: rest -> (∀ b o, s.heap.get? b = some o -> s'.heap.get? b = some o) -> Q (.bool (lt u v)) s' -> wpAny (model prog w) A.in1 (richCompare .Lt u v) Q E s')
  (h : ∀ h' tk, Fr h₀ L h' m -> News h₀ L h' news -> Q (q1w lt v0 rest) { s with heap := h', toks := tk }) : wpAny (model prog w) A (call (.builtin "min") [.ref l]) Q E s := by
 have hname : (toString "min" ++ toString ".loop" : String) = "min.loop" := by decide
 refine call_function_tree PySem.F.kind_min PySem.F.plain_min PySem.F.entry_min (PySem.F.args_min1 _) ?_
 show wpAny _ A.in1 (Builtin.Builtins.bindParams "min" ["key", "default"] 0 ⟨[], []⟩ >>= _) _ _ s
 refine wpAny_bind (wpAny_of_eq (show Builtin.Builtins.bindParams "min" ["key", "default"] 0 ⟨[], []⟩ = pure [none, none] from rfl) ?_)
 refine wpAny_bind (wpAny_pure ?_)
 refine wpAny_bind (wpAny_pyIter_list hL ?_)
 generalize hI : s.heap.objs.size = I
 have ltI : ∀ b o, s.heap.get? b = some o -> b ≠ I := fun b o e q => by
  have := Heap.lt_size e
  rw [hI, q] at this
  exact Nat.lt_irrefl _ this
 have old1 : ∀ b o, s.heap.get? b = some o -> (s.heap.push { cls := .type "list_iterator", data := .fields #[.ref l, .int 0 0] }).get? b = some o := fun b o e => Heap.get?_push_of_some _ e
 have hit : (s.heap.push { cls := .type "list_iterator", data := .fields #[.ref l, .int 0 0] }).IsListIter I l 0 := ⟨_, by rw [<- hI]; exact Heap.get?_push_size _ rfl, rfl, rfl⟩
 generalize s.heap.push { cls := .type "list_iterator", data := .fields #[.ref l, .int 0 0] } = H1 at old1 hit ⊢
 refine wpAny_bind (wpAny_newObj_type ?_)
 dsimp only
 generalize hS : H1.objs.size = S
 have ltS : ∀ b o, H1.get? b = some o -> b ≠ S := fun b o e q => by
  have := Heap.lt_size e
  rw [hS, q] at this
  exact Nat.lt_irrefl _ this
 rw [hname]
 have hl1 : H1.IsList l (v0 :: rest).toArray := hL.at fun o e => old1 _ o e
 have hIl : l ≠ I := by (refine E_ea hL fun _ ho _ => ?_; (try clear hL)); exact ltI _ _ ho
 have hSl : S ≠ l := by (refine E_ea hl1 fun _ ho _ => ?_; (try clear hl1)); exact Ne.symm (ltS _ _ ho)
 have hSI : S ≠ I := by (refine E_ea hit fun _ ho _ => ?_; (try clear hit)); exact Ne.symm (ltS _ _ ho)
 refine wpAny_pure ⟨plainId_quiet PySem.F.plain_min_loop _, ?_⟩
 refine codeAny_builtin PySem.F.entry_min_loop ?_
 rw [Around.under_plainId PySem.F.plain_min_loop _]
 show wpAny _ A.in1 (seqItems? (.ref S) >>= _) _ _ _
 have hS2 : (H1.push (boxO [] 0)).get? S = some (boxO [] 0) := by rw [<- hS]; exact Heap.get?_push_size _ rfl
 refine wpAny_bind (wpAny_seqItems hS2 rfl ?_)
 show wpAny _ A.in1 (tryCatch (pyNext (.ref I)) _ >>= _) _ _ _
 have hit2 : (H1.push (boxO [] 0)).IsListIter I l 0 := hit.at fun o e => Heap.get?_push_of_some _ e
 have hl2 : (H1.push (boxO [] 0)).IsList l (v0 :: rest).toArray := hl1.at fun o e => Heap.get?_push_of_some _ e
 refine wpAny_bind (wpAny_tryCatch (wpAny_pyNext_list_item hit2 hl2 (x := v0) (by simp) fun h₁ hit₁ hs₁ => ?_))
 have hS' : h₁.get? S = some (boxO [] 0) := hs₁.extBut S _ hSI hS2
 have hl₁ : h₁.IsList l (v0 :: rest).toArray := hl2.at fun o e => hs₁.extBut l o hIl e
 have hK₁ : q6x I S s.heap h₁ := fun b o h1 h2 e => hs₁.extBut b o h1 (Heap.get?_push_of_some _ (old1 b o e))
 show wpAny _ A.in1 (updateSeq S (fun _ => #[v0, v0]) >>= _) _ _ _
 refine wpAny_bind (wpAny_updateSeq hS' rfl ?_)
 rw [hname]
 refine wpAny_pure ⟨plainId_quiet PySem.F.plain_min_loop _, qg1 (H := s.heap) lt hh hIl hSI hSl (fun u v s' Q E hu hv hK q => hcmp u v s' Q E hu hv (fun b o e => hK b o (ltI b o e) (ltS b o (old1 b o e)) e) q) rest [v0] v0 _ _ rfl List.mem_cons_self
  (fun b o h1 h2 e => (Heap.get?_update_other _ _ (Ne.symm h2)).trans (hK₁ b o h1 h2 e)) (hit₁.at fun o e => (Heap.get?_update_other _ _ hSI).trans e) (hl₁.at fun o e => (Heap.get?_update_other _ _ hSl).trans e) (Heap.get?_update_self _ hS' rfl) fun h' tk hK => ?_⟩
 have k : ∀ b o, s.heap.get? b = some o -> h'.get? b = some o := fun b o e => hK b o (ltI b o e) (ltS b o (old1 b o e)) e
 exact h h' tk (F.keeps k) (N.grown k)
end
noncomputable def fldI (H : Heap) (k : Nat) (v : Value) : Int := match v with
 | .ref t => match H.get? t with
  | some o => match o.data with
   | .seq a _ => match a[k]? with
    | some (.int x _) => x
    | _ => 0
   | _ => 0
  | none => 0
 | _ => 0
noncomputable def ival : Value -> Int
 | .int x _ => x
 | _ => 0
theorem q9r {its : List Value} (h : 1 <= its.length) : slicePick its.toArray (some 1) none none = (its.drop 1).toArray := by
 have := slicePick_from its.toArray 1 (by simpa using h)
 simpa using this
theorem q52 {its : List Value} (i : Nat) : slicePick its.toArray none (some ((i : Int) + 1)) none = (its.take (i + 1)).toArray := by
 have := slicePick_upto' its.toArray (i + 1)
 simpa using this
theorem qac (ns : List Int) : ∀ (j : Nat), ∀ sm ∈ (q05 ns j).ss, sm.2.2.length <= 2 := by
 intro j
 induction j with
 | zero => intro sm h; cases h
 | succ j ih =>
  intro sm h
  have h' : sm ∈ (q1l j (ns.getD j 0) (q05 ns j)).ss := h
  unfold q1l at h'
  dsimp only at h'
  split at h'
  ·rcases List.mem_append.mp h' with h2 | h2
   ·exact ih sm h2
   ·rw [List.mem_singleton.mp h2]; dsimp only; split <;> simp
  ·exact ih sm h'
noncomputable def qcr (led : List (Addr × Obj)) (v : Value) (f : Tri) : Prop := ∃ T o t1 t2 t3 n, v = .ref T /\ (T, o) ∈ led /\ o.cls = .type "tuple" /\ o.data = .seq #[.int f.1 t1, .int f.2.1 t2, .int f.2.2 t3] n
noncomputable def q2z (H : Heap) (v : Value) : Tri := (fldI H 0 v, fldI H 1 v, fldI H 2 v)
theorem q61 {h₀ H : Heap} {L : Addr} {led : List (Addr × Obj)} (N : News h₀ L H led) {v : Value} {f : Tri} (x : qcr led v f) : q2z H v = f := by
 (refine q2k x fun T o t1 t2 t3 n z1z hm _ hd => ?_; (try clear x); subst z1z)
 unfold q2z fldI
 dsimp only
 rw [(N _ hm).1]
 dsimp only
 rw [hd]
 rfl
section
variable {prog : Program} {w : World} {A : Around} {E : Value -> Shared -> Prop} {s : Shared}
theorem qev {h₀ H : Heap} {L : Addr} {led : List (Addr × Obj)} (N : News h₀ L H led) {u v : Value} {f g : Tri} {Q : Value -> Shared -> Prop} (hu : qcr led u f) (hv : qcr led v g) (hk : ∀ b o, H.get? b = some o -> s.heap.get? b = some o) (hr : A.units < cLine)
  (q : Q (.bool (q0v (q2z H u) (q2z H v))) s) : wpAny (model prog w) A (richCompare .Lt u v) Q E s := by
 rw [q61 N hu, q61 N hv] at q
 (refine q2k hu fun T o t1 t2 t3 n z1z hm hc hd => ?_; (try clear hu); subst z1z)
 (refine q2k hv fun T' o' t1' t2' t3' n' z1z hm' hc' hd' => ?_; (try clear hv); subst z1z)
 exact qfz (hk _ _ (N _ hm).1) hc hd (hk _ _ (N _ hm').1) hc' hd' hr q
theorem q82 {x y : Addr} {xs : Array Value} {Q : Value -> Shared -> Prop} (hx : s.heap.IsList x xs) (hy : s.heap.IsList y #[]) (hu : A.units < cLine) (h : Q (.bool (decide (xs.size ≠ 0))) s) : wpAny (model prog w) A (compareOp .NotEq (.ref x) (.ref y)) Q E s := by
 by_cases e : xs.size = 0
 ·rw [decide_eq_false (fun h => h e)] at h
  refine (SeqAt.RcNeAt.lists (e := fun _ => true) hx hy (by simpa using e) hu fun j h1 h2 => by simp at h2) prog w E Q ?_
  rw [e]; exact h
 ·rw [decide_eq_true e] at h
  exact (SeqAt.RcNeAt.lists_lengths hx hy (by simpa using e) hu) prog w E Q h
theorem q8l {value slice : Expr} {l : Addr} {vs : List Value} {k : Int} {u : Tok} {v : Value} {Q : Value -> Shared -> Prop}
  (hl : s.heap.IsList l vs.toArray) (h0 : 0 <= k) (hhi : k < 2 ^ 63) (hx : vs[k.toNat]? = some v) (h : Q v s)
  (hs : subscripted slice false (.ref l) (.int k u) = operate [.ref l, .int k u] (getItem (.ref l) (.int k u)) := by with_unfolding_all rfl) :
  wpAny (model prog w) A (subscriptTail value slice (.ref l) (.int k u)) Q E s :=
 tail_any hl.typeIs slot_list_getitem.lookup (wpAny_getItem_list hl h0 hhi (by simpa using hx) h) hs
theorem qdf {M : Model} {c : Expr} {env : Env} {Q : Bool -> Shared -> Prop} (h : wpAny M A (isTrue c env (eval c env)) Q E s) :
  wpAny M A (forIn [c] true fun c r => if r = true then do let ok <- isTrue c env (eval c env); pure (ForInStep.yield ok) else pure (ForInStep.yield r)) Q E s := by
 rw [List.forIn_cons]
 rw [if_pos rfl]
 refine wpAny_bind (wpAny_bind (wpAny_mono h (fun ok s' hq => wpAny_pure ?_) fun _ _ e => e))
 dsimp only
 rw [List.forIn_nil]
 exact wpAny_pure hq
end
end
noncomputable def qh3 (led : List (Addr × Obj)) (v : Value) (r : List Int) : Prop := ∃ l js k, v = .ref l /\ (l, W.listOf js.toArray k) ∈ led /\ IntsAre js r
noncomputable def q6w (led : List (Addr × Obj)) : List Value -> List (List Int) -> Prop
 | [], [] => True
 | v :: vs, s :: ss => qh3 led v s /\ q6w led vs ss
 | _, _ => False
theorem qed {h₀ h : Heap} {L a : Addr} {o : Obj} {l : List (Addr × Obj)} (_ : News h₀ L h ((a, o) :: l)) : ∃ b, b = a := ⟨a, rfl⟩
open Builtin Builtin.Str in
theorem qe2 (x : Str) (c i : Nat) : PySem.Builtin.Str.subAt x ⟨#[c]⟩ i = true ↔ x.cps.toList[i]? = some c := by
 unfold PySem.Builtin.Str.subAt
 rw [beq_iff_eq]
 show x.cps.extract i (i + 1) = #[c] ↔ _
 constructor
 ·intro h
  have h2 := congrArg (fun a : Array Nat => a[0]?) h
  simp only [Array.getElem?_extract] at h2
  simp at h2
  simpa using h2.2
 ·intro h
  have hi : i < x.cps.size := by have := (List.getElem?_eq_some_iff.mp h).1; simpa using this
  apply Array.ext
  ·simp; exact o130 hi
  ·intro j h1 h2
   have hj : j = 0 := by simp at h2; exact h2
   subst hj
   have h3 := (List.getElem?_eq_some_iff.mp h).2
   simpa using h3
open Builtin Builtin.Str in
theorem qeh (x : Str) (c : Nat) : ∀ (k a : Nat) (st : Array Nat × Nat), st.2 <= a -> st.1.size <= a -> a + k <= x.length + 1 →
  (forIn (List.range' a k) st (StrLaws.occBody x ⟨#[c]⟩ x.length (x.length + 1))).run.1.size = st.1.size + ((x.cps.toList.drop a).take k).count c := by
 intro k
 induction k with
 | zero => intro a st _ _ _; simp
 | succ k ih =>
  intro a st h1 h2 h3
  rw [List.range'_succ, List.forIn_cons]
  have hl : x.length = x.cps.toList.length := by simp [Str.length]
  unfold StrLaws.occBody
  by_cases hc : x.cps.toList[a]? = some c
  ·have ha : a < x.cps.toList.length := (List.getElem?_eq_some_iff.mp hc).1
   rw [if_pos ⟨⟨⟨by exact o274 h2 hl ha, h1⟩, by show a + 1 <= _; exact o234 hl ha⟩, (qe2 x c a).mpr hc⟩]
   have e := ih (a + 1) (st.1.push a, a + 1) (Nat.le_refl _) (by simp; exact h2) (by exact o199 h3)
   show (forIn (List.range' (a + 1) k) (st.1.push a, a + 1) (StrLaws.occBody x ⟨#[c]⟩ x.length (x.length + 1))).run.1.size = _
   rw [e]
   rw [List.drop_eq_getElem_cons ha, List.take_succ_cons, List.count_cons]
   have : x.cps.toList[a] = c := (List.getElem?_eq_some_iff.mp hc).2
   simp [this]
   omega
  ·rw [if_neg (fun h => hc ((qe2 x c a).mp h.2))]
   have e := ih (a + 1) st (by exact Nat.le_succ_of_le h1) (by exact Nat.le_succ_of_le h2) (by exact o199 h3)
   show (forIn (List.range' (a + 1) k) st (StrLaws.occBody x ⟨#[c]⟩ x.length (x.length + 1))).run.1.size = _
   rw [e]
   by_cases ha : a < x.cps.toList.length
   ·rw [List.drop_eq_getElem_cons ha, List.take_succ_cons, List.count_cons]
    have hb : (x.cps.toList[a] == c) = false := by rw [beq_eq_false_iff_ne]; exact fun q => hc (by rw [List.getElem?_eq_getElem ha, q])
    rw [hb]; rfl
   ·rw [List.drop_of_length_le (by exact o178 ha), List.drop_of_length_le (by exact Nat.le_of_not_lt ha)]; simp
open Builtin Builtin.Str in
theorem qbq (x : Str) (c : Nat) : (occurrences x ⟨#[c]⟩ 0 x.length (x.length + 1)).length = x.cps.toList.count c := by
 rw [StrLaws.occ_eq, Array.length_toList, qeh x c _ 0 (#[], 0) (Nat.le_refl _) (Nat.le_refl _) (by exact o85)]
 rw [List.drop_zero, List.take_of_length_le (by simp [Str.length])]
 simp
noncomputable def q2o (c : Nat) : List (List Nat) -> List Nat
 | [] => []
 | p :: r => p ++ r.flatMap fun q => c :: q
theorem q35 (c : Nat) : ∀ r : List (List Nat), (r.flatMap fun q => c :: q).count c = r.length + (r.map (·.count c)).sum
 | [] => rfl
 | q :: r => by
  rw [List.flatMap_cons, List.count_append, q35 c r, List.count_cons]
  simp
  exact o255
theorem q58 (c : Nat) : ∀ (p q : List (List Nat)), p.length = q.length -> (∀ a ∈ p, c ∉ a) -> (∀ a ∈ q, c ∉ a) -> q2o c p = q2o c q -> p = q
 | [], [], _, _, _, _ => rfl
 | [a], [b], _, _, _, h => by simpa [q2o] using h
 | a :: a2 :: r, b :: b2 :: t, hl, hp, hq, h => by
  have ha := hp a (.head _)
  have hb := hq b (.head _)
  have e1 : q2o c (a :: a2 :: r) = a ++ c :: q2o c (a2 :: r) := by simp [q2o]
  have e2 : q2o c (b :: b2 :: t) = b ++ c :: q2o c (b2 :: t) := by simp [q2o]
  rw [e1, e2] at h
  have key : ∀ (a b x y : List Nat), c ∉ a -> c ∉ b -> a ++ c :: x = b ++ c :: y -> a = b /\ x = y := by
   intro a
   induction a with
   | nil =>
    intro b x y _ hb h
    cases b with
    | nil => exact ⟨rfl, by simpa using h⟩
    | cons z b => exact absurd (by have := (List.cons.inj h).1; rw [this]; exact .head _) hb
   | cons z a ih =>
    intro b x y ha hb h
    cases b with
    | nil => exact absurd (by have := (List.cons.inj h).1; rw [<- this]; exact .head _) ha
    | cons w b =>
     (refine E_a (List.cons.inj h) fun h1 h2 => ?_)
     (refine E_a (ih b x y (fun q => ha (.tail _ q)) (fun q => hb (.tail _ q)) h2) fun h3 h4 => ?_)
     exact ⟨by rw [h1, h3], h4⟩
  (refine E_a (key a b _ _ ha hb h) fun h1 h2 => ?_)
  rw [h1, q58 c (a2 :: r) (b2 :: t) (by simpa using hl) (fun x hx => hp x (.tail _ hx)) (fun x hx => hq x (.tail _ hx)) h2]
theorem q1c {c : Nat} (rows : List Str) : (Txt.join ⟨#[c]⟩ rows).cps.toList = q2o c (rows.map (·.cps.toList)) := by
 cases rows with
 | nil => rfl
 | cons r rows =>
  rw [join_list]
  show _ = r.cps.toList ++ (rows.map (·.cps.toList)).flatMap fun q => c :: q
  rw [List.flatMap_map]
  rfl
theorem q8i : ∀ (l : List Nat), (∀ x ∈ l, x = 0) -> l.sum = 0
 | [], _ => rfl
 | a :: l, h => by
  rw [List.sum_cons, h a (.head _), q8i l fun x hx => h x (.tail _ hx)]
theorem q9t : ∀ {l : List Nat} {x : Nat}, x ∈ l -> x <= l.sum
 | a :: l, x, h => by
  rw [List.sum_cons]
  rcases List.mem_cons.mp h with rfl | h
  ·exact Nat.le_add_right _ _
  ·have := q9t h
   omega
 | [], _, h => by cases h
open Builtin Builtin.Str in
theorem q8y {c : Nat} (hk : c < 256) {rows : List Str} (hne : rows ≠ []) (hc : ∀ r ∈ rows, c ∉ r.cps.toList) : Txt.split (Txt.join ⟨#[c]⟩ rows) ⟨#[c]⟩ = rows := by
 have hcnt : (Txt.join ⟨#[c]⟩ rows).cps.toList.count c = rows.length - 1 := by
  cases rows with
  | nil => exact absurd rfl hne
  | cons r rs =>
   rw [q1c]
   show (r.cps.toList ++ (rs.map (·.cps.toList)).flatMap fun q => c :: q).count c = _
   rw [List.count_append, q35, List.count_eq_zero.mpr (hc r (.head _))]
   have : ((rs.map (·.cps.toList)).map (·.count c)).sum = 0 := by
    rw [List.map_map]
    refine q8i _ fun x hx => ?_
    (refine E_ea (List.mem_map.mp hx) fun q hq z1z => ?_; subst z1z)
    exact List.count_eq_zero.mpr (hc q (.tail _ hq))
   rw [this]; simp
 have hocc := qbq (Txt.join ⟨#[c]⟩ rows) c
 rw [hcnt] at hocc
 match rows, hne with
 | [r], _ =>
  have hx : Txt.join ⟨#[c]⟩ [r] = r := by
   rw [q1f (Txt.join ⟨#[c]⟩ [r]), q1c, q1f r]; simp [q2o]
  rw [hx] at hocc ⊢
  unfold Txt.split
  split
  ·rfl
  ·have : (occurrences r ⟨#[c]⟩ 0 r.length (r.length + 1)).isEmpty = true := by rw [List.isEmpty_iff]; exact List.length_eq_zero_iff.mp hocc
   rw [if_pos this]
 | r :: r2 :: rs, hne =>
  generalize hx : Txt.join ⟨#[c]⟩ (r :: r2 :: rs) = x at hocc
  have hcx : c ∈ x.cps.toList := by
   rw [<- hx, q1c]; simp [q2o]
  have hlen : 1 <= x.length := by
   have : 0 < x.cps.toList.length := List.length_pos_of_mem hcx
   have h9 : x.length = x.cps.toList.length := by simp [Str.length]
   omega
  unfold Txt.split
  have k1 : PySem.Builtin.Str.strKind ⟨#[c]⟩ = 1 := by unfold PySem.Builtin.Str.strKind; rw [if_pos (by simp [hk])]
  have k2 : 1 <= PySem.Builtin.Str.strKind x := by unfold PySem.Builtin.Str.strKind; split; exact Nat.le_refl _; split <;> decide
  rw [if_neg (by rw [k1]; simp only [Bool.or_eq_true, decide_eq_true_eq]; show ¬ (x.length < 1 ∨ _); exact o123 hlen k2)]
  have hem : ¬ (occurrences x ⟨#[c]⟩ 0 x.length (x.length + 1)).isEmpty = true := by
   rw [List.isEmpty_iff]; intro h; rw [h] at hocc; simp at hocc
  rw [if_neg hem]
  have hg := StrLaws.glued_between_self x ⟨#[c]⟩ (x.length + 1)
  have hpl := length_partsBetween x (occurrences x ⟨#[c]⟩ 0 x.length (x.length + 1)) (Str.length ⟨#[c]⟩)
  generalize partsBetween x (occurrences x ⟨#[c]⟩ 0 x.length (x.length + 1)) (Str.length ⟨#[c]⟩) = parts at hg hpl
  rw [hocc] at hpl
  have hpj : q2o c (parts.map (·.cps.toList)) = q2o c ((r :: r2 :: rs).map (·.cps.toList)) := by
   rw [<- q1c, <- q1c, hx]
   exact congrArg (fun z : Str => z.cps.toList) hg
  have hpn : ∀ a ∈ parts.map (·.cps.toList), c ∉ a := by
   have hc2 := congrArg (·.count c) hpj
   rw [<- q1c (r :: r2 :: rs), hcnt] at hc2
   cases parts with
   | nil => simp at hpl
   | cons p ps =>
    have h3 : (q2o c ((p :: ps).map (·.cps.toList))).count c = p.cps.toList.count c + (ps.length + ((ps.map (·.cps.toList)).map (·.count c)).sum) := by
     show (p.cps.toList ++ (ps.map (·.cps.toList)).flatMap fun q => c :: q).count c = _
     rw [List.count_append, q35, List.length_map]
    rw [h3] at hc2
    simp only [List.length_cons] at hpl hc2
    have hp0 : p.cps.toList.count c = 0 := by exact o268 hpl hc2
    have hs0 : ((ps.map (·.cps.toList)).map (·.count c)).sum = 0 := by exact o269 hpl hc2
    intro a ha
    rcases List.mem_cons.mp ha with rfl | ha
    ·exact List.count_eq_zero.mp hp0
    ·have := q9t (List.mem_map.mpr ⟨a, ha, rfl⟩ : a.count c ∈ ((ps.map (·.cps.toList)).map (·.count c)))
     exact List.count_eq_zero.mp (by exact o279 hpl hc2 this)
  have hu := q58 c _ _ (by rw [List.length_map, List.length_map, hpl]; rfl) hpn (fun a ha => by
   (refine E_ea (List.mem_map.mp ha) fun q hq z1z => ?_; subst z1z)
   exact hc q hq) hpj
  refine List.map_inj_right (f := fun q : Str => q.cps.toList) (fun a b h => ?_) |>.mp hu
  rw [q1f a, q1f b]
  exact congrArg strL h
section
theorem q68 : ∀ (l : List Str) (t : Nat), StrsAre (strsFrom t l) l
 | [], _ => .nil
 | x :: l, t => .cons x t (q68 l (t + 1))
section
variable {prog : Program} {w : World} {A : Around} {E : Value -> Shared -> Prop} {s : Shared} {h₀ : Heap} {L : Addr} {m : Str -> Option Value} {news : List (Addr × Obj)}
open Builtin Builtin.Str in
theorem q9n {x y : Str} {tx ty : Tok} {rows : List Str} {Q : Value -> Shared -> Prop} (F : Fr h₀ L s.heap m) (N : News h₀ L s.heap news) (hy : (y.length == 0) = false) (hx : x.length <= 10000) (hr : Txt.split x y = rows)
  (h : ∀ D vs h' tk, Fr h₀ L h' m -> News h₀ L h' ((D, W.listOf vs.toArray 0) :: news) -> (∀ p ∈ news, p.1 < D) -> StrsAre vs rows -> Q (.ref D) { s with heap := h', toks := tk }) :
  wpAny (model prog w) A (call (.builtin "str.split") [.str x tx, .str y ty]) Q E s := by
 have hz : x.length <= sizeLine := Nat.le_trans hx (by decide)
 have fin : ∀ (vs : List Value) tk, StrsAre vs rows -> Q (.ref s.heap.objs.size) { s with toks := tk, heap := s.heap.push { cls := .type "list", data := .seq vs.toArray } } := fun vs tk hv =>
  h _ vs _ tk (F.push _) (N.push F _) (fun q hq => Heap.lt_size (N q hq).1) hv
 have self : StrsAre [Value.str x tx] [x] := .cons x tx .nil
 unfold Txt.split at hr
 cases h1 : (decide (x.length < y.length) || decide (PySem.Builtin.Str.strKind x < PySem.Builtin.Str.strKind y))
 ·rw [if_neg (by rw [h1]; exact Bool.false_ne_true)] at hr
  cases hf : (occurrences x y 0 x.length (x.length + 1)).isEmpty
  ·rw [if_neg (by rw [hf]; exact Bool.false_ne_true)] at hr
   have hn : (partsBetween x (occurrences x y 0 x.length (x.length + 1)) y.length).length <= sizeLine := by
    rw [length_partsBetween]
    have := StrLaws.occ_length_le x y 0 x.length (x.length + 1)
    have h3 : sizeLine = 16777216 := rfl
    omega
   refine call_meets PySem.F.slot_str_split (typeIs_str _ _ _) PySem.F.entry_str_split (PySem.F.args_str_split_2 _ _) (meets_str_split_sep x y tx ty h1 hy hf hz hn) ?_
   exact fin _ _ (hr ▸ q68 _ _)
  ·rw [if_pos hf] at hr
   refine call_meets PySem.F.slot_str_split (typeIs_str _ _ _) PySem.F.entry_str_split (PySem.F.args_str_split_2 _ _) (meets_str_split_not_found x y tx ty h1 hy hf) ?_
   exact fin [.str x tx] s.toks (hr ▸ self)
 ·rw [if_pos h1] at hr
  refine call_meets PySem.F.slot_str_split (typeIs_str _ _ _) PySem.F.entry_str_split (PySem.F.args_str_split_2 _ _) (meets_str_split_cannot_occur x y tx ty h1) ?_
  exact fin [.str x tx] s.toks (hr ▸ self)
end
theorem qcq {acc : List Value} {os : List Int} (h : IntsAre acc os) : Txt.join "" (acc.map fun v => (⟨#[(ival v).toNat]⟩ : Str)) = strL (octN os) := by
 rw [q3b]
 congr 1
 rw [List.flatMap_map]
 induction h with
 | nil => rfl
 | cons n t _ ih =>
  rw [List.flatMap_cons, ih]
  rfl
theorem qg5 {x : Int} (h : 0 <= x /\ x < 262144) : ∀ a ∈ q0w x, 0 <= a /\ a < 128 := by
 intro a ha
 rw [q30 h] at ha
 rcases List.mem_append.mp ha with ha | ha
 ·have := qe0 h a ha; omega
 ·rw [List.mem_singleton.mp ha]; exact o379
theorem q5m {ns : List Int} (h : ∀ x ∈ ns, 0 <= x /\ x < 262144) : ∀ a ∈ q01 ns, 0 <= a /\ a < 128 := by
 intro a ha
 unfold q01 at ha
 (refine E_ea (List.mem_flatMap.mp ha) fun x hx ha => ?_)
 exact qg5 (h x hx) a ha
theorem qbw (ns : List Int) : ∀ j, ∀ sm ∈ (q05 ns j).ss, ∃ w : Nat, sm.2.1 = (w : Int) /\ 0 ≠ ns.getD w 0 % 64 := by
 intro j
 induction j with
 | zero => intro sm h; cases h
 | succ j ih =>
  intro sm h
  have h' : sm ∈ (q1l j (ns.getD j 0) (q05 ns j)).ss := h
  unfold q1l at h'
  dsimp only at h'
  split at h'
  ·rename_i hc
   rcases List.mem_append.mp h' with h2 | h2
   ·exact ih sm h2
   ·rw [List.mem_singleton.mp h2]
    refine ⟨j, rfl, fun e => ?_⟩
    rw [Bool.and_eq_true] at hc
    rw [<- e] at hc
    exact absurd hc.1 (by decide)
  ·exact ih sm h'
theorem qbi {codes : List Int} {wd hd : Int} {ss : List Seam} {size : Int} : ∀ t, t <= ss.length -> ∀ f ∈ (q17 codes wd hd ss size t).folds, ∃ sm ∈ ss, f = sm.2.1 := by
 intro t
 induction t with
 | zero => intro _ f h; cases h
 | succ t ih =>
  intro ht f h
  have h' : f ∈ (q2s codes wd ss size t (q17 codes wd hd ss size t)).folds := h
  unfold q2s at h'
  split at h'
  ·split at h'
   ·rename_i b r hf
    rcases List.mem_append.mp h' with h2 | h2
    ·exact ih (by exact Nat.le_of_lt ht) f h2
    ·rw [List.mem_singleton.mp h2]
     have hb := (q3c r b).1
     rw [<- hf] at hb
     (refine q5r (mem_found.mp hb) fun sm hsm c _ _ _ e => ?_)
     exact ⟨sm, List.mem_of_mem_take hsm, by rw [e]⟩
   ·split at h'
    ·rcases List.mem_append.mp h' with h2 | h2
     ·exact ih (by exact Nat.le_of_lt ht) f h2
     ·rw [List.mem_singleton.mp h2]
      have hg : ss[t]? = some ss[t] := List.getElem?_eq_getElem (by exact ht)
      exact ⟨ss[t], List.getElem_mem _, by rw [List.getD_eq_getElem?_getD, hg]; rfl⟩
    ·exact ih (by exact Nat.le_of_lt ht) f h'
  ·exact ih (by exact Nat.le_of_lt ht) f h'
theorem qax {ns : List Int} (hx : ∀ x ∈ ns, 0 <= x /\ x < 262144) {wd hd : Int} {codes : List Int} : ∀ i : Nat, (i : Int) ∈ q12 ns wd hd codes -> 0 < ns.getD i 0 := by
 intro i h
 unfold q12 at h
 (refine E_ea (qbi _ (Nat.le_refl _) _ h) fun sm hsm e => ?_)
 (refine E_ea (qbw ns _ sm hsm) fun w h1 h2 => ?_)
 rw [h1] at e
 have ei : i = w := Int.ofNat.inj e
 rw [<- ei] at h2
 have := q24 hx i
 omega
theorem q94 {ns : List Int} (h0 : ns.getD 0 0 = 32) (hn : 0 < ns.length) : 1 <= (q05 ns ns.length).ss.length := by
 have key : ∀ j, 1 <= (q05 ns (j + 1)).ss.length := by
  intro j
  induction j with
  | zero =>
   show 1 <= (q1l 0 (ns.getD 0 0) ⟨[], 0, 0⟩).ss.length
   rw [h0]; decide
  | succ j ih =>
   show 1 <= (q1l (j + 1 : Nat) (ns.getD (j + 1) 0) (q05 ns (j + 1))).ss.length
   unfold q1l
   dsimp only
   split
   ·rw [List.length_append]; exact Nat.le_add_right_of_le ih
   ·exact ih
 (refine E_e (⟨ns.length - 1, by exact o24 hn⟩ : ∃ k, ns.length = k + 1) fun k hk => ?_)
 rw [hk]; exact key k
end
theorem qd3 (vs : List Value) : ((vs.map fun v => (⟨#[(ival v).toNat]⟩ : Str)).map (·.length)).sum = vs.length := by
 induction vs with
 | nil => rfl
 | cons v vs ih =>
  simp only [List.map_cons, List.sum_cons, List.length_cons] at ih ⊢
  rw [ih]
  show 1 + _ = _
  exact Nat.add_comm _ _
theorem qcn (l : List Nat) : (strL l).length = l.length := by
 show l.toArray.size = _
 exact List.size_toArray ..
theorem q8g (l : List Nat) : (strL l).cps.toList = l := rfl
theorem q67 {rs : List (List Nat)} {r : List Nat} (h : r ∈ rs) : r.length <= rs.flatten.length := by
 induction rs with
 | nil => cases h
 | cons a rs ih =>
  rw [List.flatten_cons, List.length_append]
  rcases List.mem_cons.mp h with rfl | h
  ·exact Nat.le_add_right _ _
  ·have := ih h
   omega
theorem qcg (rs : List (List Nat)) : ((rs.map strL).map (·.length)).sum = rs.flatten.length := by
 induction rs with
 | nil => rfl
 | cons v vs ih =>
  simp only [List.map_cons, List.sum_cons, List.flatten_cons, List.length_append] at ih ⊢
  rw [ih]
  rw [qcn]
theorem q5h (l : List Int) : (octN l).length = l.length := List.length_map _
theorem q9i {x : Int} (h : 0 <= x /\ x < 262144) : 1 <= (q0w x).length := by
 rw [q30 h, List.length_append, List.length_cons, List.length_nil]; exact Nat.succ_pos _
theorem qet {zs : List Int} (h : ∀ x ∈ zs, 0 <= x /\ x < 262144) : zs.length <= (q01 zs).length := by
 induction zs with
 | nil => exact Nat.zero_le _
 | cons z zs ih =>
  have e : q01 (z :: zs) = q0w z ++ q01 zs := by rw [show z :: zs = [z] ++ zs from rfl, q1a, q1r]
  have h1 := q9i (h z (.head _))
  have h2 := ih fun x hx => h x (.tail _ hx)
  rw [e, List.length_append, List.length_cons]
  omega
theorem qb6 {l : List Int} (h : ∀ a ∈ l, 0 <= a) : (octN l).map Int.ofNat = l := by
 induction l with
 | nil => rfl
 | cons a l ih =>
  show Int.ofNat a.toNat :: (octN l).map Int.ofNat = _
  rw [ih fun x hx => h x (.tail _ hx)]
  have := h a (.head _)
  congr 1
  show ((a.toNat : Nat) : Int) = a
  exact Int.toNat_of_nonneg this
theorem q9a {rs : List (List Nat)} {due : List (List Int)} {ns : List Int} (hx : ∀ x ∈ ns, 0 <= x /\ x < 262144) (hn : ns.length <= 16) (hf : rs.flatten = octN (q01 ns)) (he : rs.map (· ++ [0]) = due.map (fun z => octN (q01 z))) (hd : ∀ r ∈ due, ∀ x ∈ r, 0 <= x /\ x < 262144) :
  rs.length = due.length /\ (∀ r ∈ rs, (128 : Nat) ∉ r /\ r.length <= 48) /\
   ∀ (i : Nat) (r : List Nat), rs[i]? = some r -> ∃ z, due[i]? = some z /\ ((strL r).cps.toList ++ [0]).map Int.ofNat = q01 z /\ (∀ x ∈ z, 0 <= x /\ x < 262144) /\ (strL r).cps.size <= 200 /\ z.length <= 100 := by
 have hl : rs.length = due.length := by
  have := congrArg List.length he
  rwa [List.length_map, List.length_map] at this
 have ho := q2b ns
 have hr : ∀ r ∈ rs, (128 : Nat) ∉ r /\ r.length <= 48 := by
  intro r hr
  constructor
  ·intro h
   have h1 : 128 ∈ rs.flatten := List.mem_flatten.mpr ⟨r, hr, h⟩
   rw [hf] at h1
   (refine E_ea (List.mem_map.mp h1) fun a ha e => ?_)
   have := q5m hx a ha
   exact (o317 e this).elim
  ·have h1 : r.length <= rs.flatten.length := q67 hr
   rw [hf, q5h] at h1
   omega
 refine ⟨hl, hr, ?_⟩
 intro i r hi
 have hi' : i < due.length := by rw [<- hl]; exact (List.getElem?_eq_some_iff.mp hi).1
 have hz : due[i]? = some due[i] := List.getElem?_eq_getElem hi'
 refine ⟨due[i], hz, ?_⟩
 have hm : due[i] ∈ due := List.getElem_mem hi'
 have h1 : r ++ [0] = octN (q01 due[i]) := by
  have h2 := congrArg (·[i]?) he
  simp only [List.getElem?_map, hi, hz, Option.map_some] at h2
  exact Option.some.inj h2
 have h3 := hd _ hm
 have h4 := (hr r (List.mem_of_getElem? hi)).2
 have h5 : (q01 due[i]).length = r.length + 1 := by rw [<- q5h, <- h1, List.length_append]; rfl
 have h6 := qet h3
 refine ⟨?_, h3, ?_, by exact o237 h4 h5 h6⟩
 ·rw [q8g, h1]
  exact qb6 fun a ha => (q5m h3 a ha).1
 ·rw [<- Array.length_toList, q8g]; exact Nat.le_add_left_of_le h4
section
section
variable {prog : Program} {w : World} {A : Around} {E : Value -> Shared -> Prop} {h₀ hh : Heap} {L l : Addr} {m : Str -> Option Value} {news : List (Addr × Obj)} {g : Array GenState} {d : Drawn} {t : Nat} {os : OsState}
theorem qfl {value : Expr} {lw up : Option Expr} {ps : Pos} {vl vu : Value} {lo hi : Option Int} {vs : List Value} {Q : Value -> Shared -> Prop} (F : Fr h₀ L hh m) (N : News h₀ L hh news) (hl : hh.IsList l vs.toArray)
  (pl : IsPart vl lo) (pu : IsPart vu hi) (hz : vs.length <= 1000000)
  (h : ∀ D h', Fr h₀ L h' m -> News h₀ L h' ((D, W.listOf (slicePick vs.toArray lo hi none) 0) :: news) -> (∀ p ∈ news, p.1 < D) -> Q (.ref D) ⟨h', g, d, t, os⟩) :
  wpAny (model prog w) A (subscriptTail value (.Slice lw up none ps) (.ref l) (.ref hh.objs.size)) Q E ⟨hh.push { cls := .type "slice", data := .fields #[vl, vu, .none] }, g, d, t, os⟩ := by
 have F1 := F.push { cls := .type "slice", data := .fields #[vl, vu, .none] }
 have kp : ∀ b o, hh.get? b = some o -> (hh.push { cls := .type "slice", data := .fields #[vl, vu, .none] }).get? b = some o := fun b o e => Heap.get?_push_of_some _ e
 have N1 : News h₀ L (hh.push { cls := .type "slice", data := .fields #[vl, vu, .none] }) news := fun q hq => ⟨kp _ _ (N q hq).1, (N q hq).2⟩
 have hz' : vs.toArray.size <= sizeLine := by rw [List.size_toArray]; exact Nat.le_trans hz (by decide)
 have hL := hl.at (kp l)
 refine qad (s := ⟨_, g, d, t, os⟩) (ops := [.ref hh.objs.size, .ref l]) hL.typeIs list_getitem_lookup (wpAny_getItem_list_slice (s := ⟨_, g, d, t, os⟩) (hsz := hz') hL (Heap.IsSliceOf.new ..) pl pu .none (by nofun) (h _ _ (F1.push _) (N1.push F1 _) fun q hq => Heap.lt_size (N1 q hq).1)) rfl
end
theorem qaq {vs : List Value} {ns : List Int} (k : Nat) (h : IntsAre vs ns) : IntsAre (vs.take k) (ns.take k) := by
 induction h generalizing k with
 | nil => rw [List.take_nil, List.take_nil]; exact .nil
 | cons n t h ih =>
  cases k with
  | zero => exact .nil
  | succ k => exact .cons _ _ (ih k)
end
theorem qat {l : List Nat} {c : Nat} (h : c ∈ l) (hc : Unicode.isSpace c = false) : Txt.isspace (strL l) = false := by
 unfold Txt.isspace
 rw [Bool.and_eq_false_iff]
 refine .inr ?_
 rw [Bool.eq_false_iff]
 intro h2
 simp only [List.all_toArray, List.all_eq_true] at h2
 have := h2 c h
 rw [hc] at this
 cases this
theorem qaa {cs : List q11} (hg : GoodC cs) (hlen : (q02 cs).length <= 48) (hasc : ∀ a ∈ q02 cs, a < 128) {wd hd : Int} {sp : Str} (hh : 0 <= hd /\ hd < 4) {si : List q11} {cl : q11} (he : (fsAt wd sp hd cs cs.length).chs = si.map strC ++ [strC cl]) (hcl : cl ∈ cs) (hl : cl.2.getLast? = some 33) :
  (0 <= (fsAt wd sp hd cs cs.length).sz /\ (fsAt wd sp hd cs cs.length).sz + csum (si.map strC ++ [(strL cl.1, strL cl.2)]) < 10000) /\ (PyData.strOk (strL cl.1) = true /\ PyData.strOk (strL cl.2) = true) /\ strL cl.2 ≠ Str.ofString "" /\ Txt.isspace (q0m (si.map strC ++ [(strL cl.1, strL cl.2)])) = false := by
 (refine E_aa (q3z (Wd := wd) (sp := sp) (sz := hd) (cs := cs) cs.length (Nat.le_refl _)) fun _ h2 h3 => ?_)
 rw [he, List.take_length, q4o] at h2
 have h4 : csum (si.map strC ++ [(strL cl.1, strL cl.2)]) <= 48 := by
  have : csum (si.map strC ++ [strC cl]) <= 48 := by exact o385 hlen h2
  exact this
 (refine E_aa (q2v hcl) fun m1 m2 _ => ?_)
 have h33 : (33 : Nat) ∈ cl.2 := List.mem_of_getLast? hl
 refine ⟨by exact o416 hh h3 h4, ⟨q23 fun a ha => hasc a (m1 a ha), q23 fun a ha => hasc a (m2 a ha)⟩, ?_, ?_⟩
 ·intro e
  have e2 : cl.2 = [] := congrArg (fun x : Str => x.cps.toList) e
  rw [e2] at h33
  cases h33
 ·have e : q0m (si.map strC ++ [(strL cl.1, strL cl.2)]) = strL (q02 (si ++ [cl])) := by
   rw [<- q34, List.map_append]; rfl
  rw [e]
  exact qat (c := 33) (((q2v (cs := si ++ [cl]) (List.mem_append_right _ (.head _))).2.1 33 h33)) (by decide +kernel)
theorem qcv {c : Nat} (rows : List Str) : (Txt.join ⟨#[c]⟩ rows).length <= (rows.map (·.length)).sum + rows.length := by
 have key : ∀ l : List Str, (l.flatMap fun p : Str => (⟨#[c]⟩ : Str).cps.toList ++ p.cps.toList).length = (l.map (·.length)).sum + l.length := by
  intro l
  induction l with
  | nil => rfl
  | cons a l ih =>
   rw [List.flatMap_cons, List.length_append, ih, List.length_append, List.map_cons, List.sum_cons, List.length_cons]
   have h1 : a.cps.toList.length = a.length := Array.length_toList
   simp only [List.length_cons, List.length_nil, h1]
   omega
 cases rows with
 | nil => exact Nat.zero_le _
 | cons r rs =>
  have h1 : (Txt.join ⟨#[c]⟩ (r :: rs)).length = (Txt.join ⟨#[c]⟩ (r :: rs)).cps.toList.length := Array.length_toList.symm
  rw [h1, join_list, List.length_append, key, List.map_cons, List.sum_cons, List.length_cons]
  have h2 : r.cps.toList.length = r.length := Array.length_toList
  omega
theorem join_rows (rws : List (List Nat)) : Txt.join "" (rws.map strL) = strL rws.flatten := by
 rw [q3b]
 congr 1
 rw [List.flatMap_map]
 induction rws with
 | nil => rfl
 | cons a l ih =>
  rw [List.flatMap_cons, ih, List.flatten_cons]
theorem qfi {fr : List Str} {x : Str} {rws : List (List Nat)} (h : fr ++ [x] = rws.map strL) : rws ≠ [] := by
 intro e
 rw [e] at h
 have := congrArg List.length h
 rw [List.length_append] at this
 cases this
section
section
open PySem.SeqAt
noncomputable def q37 (zss : List (List Int)) : List PyData := zss.map fun z => PyData.list (z.map PyData.int)
theorem q20 {h : Heap} {led : List (Addr × Obj)} (hled : ∀ p ∈ led, h.get? p.1 = some p.2) : ∀ (its : List Value) (zss : List (List Int)), q6w led its zss -> ∃ as, ReadsAll h its (q37 zss) as
 | [], [], _ => ⟨[], .nil⟩
 | [], _ :: _, x => x.elim
 | _ :: _, [], x => x.elim
 | v :: vs, z :: zs, x => by
  (refine E_a x fun z1z hx => ?_; (try clear x); obtain ⟨l, js, k, rfl, hm, hI⟩ := z1z)
  (refine E_e (q20 hled vs zs hx) fun as ha => ?_)
  exact ⟨_, .cons (.list (hled _ hm) rfl rfl (by rw [List.toList_toArray]; exact readsAll_of_ints hI)) ha⟩
theorem q2j : ∀ zss : List (List Int), PyData.canLayAll0 (q37 zss) = true
 | [] => by simp [q37, PyData.canLayAll0]
 | z :: r => by
  have := q2j r
  simp only [q37, List.map_cons, PyData.canLayAll0, PyData.canLay0, W.canLayAll0_ints, Bool.true_and] at this ⊢
  exact this
theorem q4w : ∀ zss : List (List Int), PyData.depthAll (q37 zss) <= 2
 | [] => by simp [q37, PyData.depthAll]
 | z :: r => by
  have h1 := q4w r
  have h2 := W.depthAll_ints z
  simp only [q37, List.map_cons, PyData.depthAll, PyData.depth] at h1 ⊢
  omega
theorem q4f (zss : List (List Int)) : shaped (.list (q37 zss)) = true := by
 have h1 := q4w zss
 have h2 : PyData.depth (.list (q37 zss)) <= 64 := by simp only [PyData.depth]; exact Nat.lt_of_le_of_lt h1 (by decide)
 show (PyData.canLay0 (.list (q37 zss)) && decide (PyData.depth (.list (q37 zss)) <= 64)) = true
 rw [Bool.and_eq_true]
 exact ⟨by simp only [PyData.canLay0]; exact q2j zss, decide_eq_true h2⟩
section
variable {prog : Program} {w : World} {A : Around} {E : Value -> Shared -> Prop} {s : Shared}
theorem qf8 {a b : Addr} {i1 i2 : List Value} {led1 led2 : List (Addr × Obj)} {zss : List (List Int)} {Q : Value -> Shared -> Prop} (hl : s.heap.IsList a i1.toArray) (hl' : s.heap.IsList b i2.toArray) (n1 : ∀ p ∈ led1, s.heap.get? p.1 = some p.2) (n2 : ∀ p ∈ led2, s.heap.get? p.1 = some p.2)
  (r1 : q6w led1 i1 zss) (r2 : q6w led2 i2 zss) (hu : A.units + 64 < cLine) (h : Q (.bool true) s) : wpAny (model prog w) A (compareOp .Eq (.ref a) (.ref b)) Q E s := by
 (refine E_e (q20 n1 _ _ r1) fun as1 h1 => ?_)
 (refine E_e (q20 n2 _ _ r2) fun as2 h2 => ?_)
 (refine q89 hl fun o ho hc n hd => ?_; (try clear hl))
 (refine q89 hl' fun o' ho' hc' n' hd' => ?_; (try clear hl'))
 have e : PyData.eqv (.list (q37 zss)) (.list (q37 zss)) = true := eqv_refl _ (by simp only [PyData.canLay0]; exact q2j zss)
 exact eq_dataH (.list ho hc hd (by rw [List.toList_toArray]; exact h1)) (.list ho' hc' hd' (by rw [List.toList_toArray]; exact h2)) (q4f zss) (q4f zss) hu (by rw [e]; exact h)
end
end
end
end
namespace H
section
open PySem PySem.W PyProof.Rows PySem.Calls
section
noncomputable abbrev lsO (vs : List Value) : Obj := W.listOf vs.toArray 0
noncomputable abbrev vI (n : Int) : Value := .int n 0
noncomputable abbrev lsI (ns : List Int) : Obj := lsO (ns.map vI)
noncomputable abbrev tpO (vs : List Value) : Obj := { cls := .type "tuple", data := .seq vs.toArray }
theorem qfk (v : Value) : eV (eV v) = eV v := by cases v <;> rfl
theorem q8h {b : Bool} {d : Data} {vs : Array Value} (h : eD b d = .seq vs 0) : ∃ xs n, d = .seq xs n /\ xs.map eV = vs /\ (bif b then n else 0) = 0 := by
 cases d <;> simp only [eD, reduceCtorEq, Data.seq.injEq] at h
 exact ⟨_, _, rfl, h⟩
theorem q6o {o o' : Obj} (h : eO o = o') : o.cls = o'.cls := by
 rw [<- h]
 unfold eO
 cases tokC o.cls <;> rfl
theorem qba {o o' : Obj} (h : eO o = eO o') (hc : tokC o'.cls = false) : o = o' := by
 have h1 : eO o' = o' := by unfold eO; rw [hc]; rfl
 have h2 := q6o h
 rw [h1] at h h2
 unfold eO at h
 rw [h2, hc] at h
 exact h
noncomputable def fixD : Data -> Bool
 | .seq .. => false
 | .cell _ => false
 | _ => true
theorem q0z {o o' : Obj} (h : eO o = o') (hd : fixD o'.data = true) : o = o' := by
 unfold eO at h
 cases hc : tokC o.cls <;> rw [hc] at h
 ·exact h
 ·rw [<- h] at hd ⊢
  obtain ⟨c1, d1, dt, sl⟩ := o
  cases dt <;> first | rfl | cases hd
theorem q0b {o : Obj} {vs : List Value} (h : eO o = lsO vs) : ∃ (its : List Value) (k : Nat), o = W.listOf its.toArray k /\ its.map eV = vs := by
 obtain ⟨c1, d1, dt, sl⟩ := o
 have hc := q6o h
 dsimp only at hc
 subst hc
 simp only [eO, tokC, Bool.or_true, Bool.true_or, beq_self_eq_true, cond_true, Obj.mk.injEq, true_and] at h
 (refine E_aa h fun h2 h3 h4 => ?_; (try clear h))
 (refine q08 (q8h h3) fun xs n z1z h5 h6 => ?_; subst z1z)
 refine ⟨xs.toList, n, ?_, ?_⟩
 ·rw [h2, h4, Array.toArray_toList]
 ·rw [<- Array.toList_map, h5]
theorem q8q {o : Obj} {vs : List Value} (h : eO o = tpO vs) : ∃ (its : List Value) (k : Nat), o = { cls := .type "tuple", data := .seq its.toArray k } /\ its.map eV = vs := by
 obtain ⟨c1, d1, dt, sl⟩ := o
 have hc := q6o h
 dsimp only at hc
 subst hc
 simp only [eO, tokC, Bool.or_true, Bool.true_or, beq_self_eq_true, cond_true, Obj.mk.injEq, true_and] at h
 (refine E_aa h fun h2 h3 h4 => ?_; (try clear h))
 (refine q08 (q8h h3) fun xs n z1z h5 h6 => ?_; subst z1z)
 refine ⟨xs.toList, n, ?_, ?_⟩
 ·rw [h2, h4, Array.toArray_toList]
 ·rw [<- Array.toList_map, h5]
theorem q3d {o : Obj} {vs : List Value} (h : eO o = tpO vs) : ∃ its : List Value, o = { cls := .type "tuple", data := .seq its.toArray } /\ its.map eV = vs := by
 obtain ⟨c1, d1, dt, sl⟩ := o
 have hc := q6o h
 dsimp only at hc
 subst hc
 simp only [eO, tokC, Bool.or_true, Bool.true_or, beq_self_eq_true, cond_true, Obj.mk.injEq, true_and] at h
 (refine E_aa h fun h2 h3 h4 => ?_; (try clear h))
 (refine q08 (q8h h3) fun xs n z1z h5 h6 => ?_; subst z1z)
 obtain rfl : n = 0 := h6
 refine ⟨xs.toList, ?_, ?_⟩
 ·rw [h2, h4, Array.toArray_toList]
 ·rw [<- Array.toList_map, h5]
theorem q0r : ∀ {its : List Value} {ns : List Int}, its.map eV = ns.map vI -> IntsAre its ns
 | [], [], _ => .nil
 | [], _ :: _, h => by cases h
 | _ :: _, [], h => by cases h
 | v :: vs, n :: ns, h => by
  rw [List.map_cons, List.map_cons, List.cons.injEq] at h
  (refine E_e (q0a h.1) fun t z1z => ?_; subst z1z)
  exact .cons _ _ (q0r h.2)
theorem q2i : ∀ {its : List Value} {ns : List Int}, IntsAre its ns -> its.map eV = ns.map vI
 | _, _, .nil => rfl
 | _, _, .cons n t r => by rw [List.map_cons, List.map_cons, q2i r]; rfl
theorem q03 {led led' : Led} (hl : led'.map eP = led) {i : Nat} {D : Addr} {o : Obj} (hi : led[i]? = some (D, o)) : ∃ o', led'[i]? = some (D, o') /\ eO o' = o := by
 rw [<- hl, List.getElem?_map, Option.map_eq_some_iff] at hi
 (refine E_ea hi fun z1z h1 h2 => ?_; (try clear hi); obtain ⟨a, o'⟩ := z1z)
 simp only [eP, Prod.mk.injEq] at h2
 exact ⟨o', by rw [h1, h2.1], h2.2⟩
theorem q1x {D : Addr} {o o2 : Obj} : ∀ {l : Led} {i : Nat}, l[i]? = some (D, o) -> (l.map (·.1)).Nodup -> Upd D o o2 l (l.set i (D, o2))
 | [], _, h, _ => by simp at h
 | p :: l, 0, h, hn => by
  simp only [List.getElem?_cons_zero, Option.some.injEq] at h
  subst h
  rw [List.map_cons, List.nodup_cons] at hn
  exact .head fun q hq e => hn.1 (List.mem_map.mpr ⟨q, hq, e⟩)
 | p :: l, i + 1, h, hn => by
  rw [List.map_cons, List.nodup_cons] at hn
  simp only [List.getElem?_cons_succ] at h
  exact .tail (fun e => hn.1 (List.mem_map.mpr ⟨_, List.mem_of_getElem? h, e.symm⟩)) (q1x h hn.2)
theorem q0e {led led' : Led} (hl : led'.map eP = led) : led'.map (·.1) = led.map (·.1) := by rw [<- hl, List.map_map]; rfl
theorem q6d {led led' : Led} (hl : led'.map eP = led) {i : Nat} {D : Addr} {o : Obj} : (led'.set i (D, o)).map eP = led.set i (D, eO o) := by rw [List.map_set, hl]
theorem q7y {led : Led} {i : Nat} {D : Addr} {o o2 : Obj} (hi : led[i]? = some (D, o)) : (led.set i (D, o2)).map (·.1) = led.map (·.1) := by
 rw [List.map_set]
 apply List.ext_getElem?
 intro j
 by_cases q : i = j
 ·subst q
  rw [List.getElem?_map, hi]
  (refine E_e (List.getElem?_eq_some_iff.mp hi) fun hlt _ => ?_)
  rw [List.getElem?_set_self (by rw [List.length_map]; exact hlt)]; rfl
 ·rw [List.getElem?_set_ne q]
theorem q0d {led led' : Led} (hl : led'.map eP = led) (hn : (led.map (·.1)).Nodup) {D : Addr} {o : Obj} (hD : ∀ p ∈ led', @LT.lt Nat _ p.1 D) : (((D, o) :: led).map (·.1)).Nodup := by
 rw [List.map_cons, List.nodup_cons]
 refine ⟨fun h => ?_, hn⟩
 rw [<- q0e hl] at h
 (refine E_ea (List.mem_map.mp h) fun p hp e => ?_)
 exact Nat.lt_irrefl D (by have := hD p hp; rw [show p.1 = D from e] at this; exact this)
section
variable {c : Cx} {m : Fm} {led : Led} {a b e : Expr} {pos : Pos}
noncomputable abbrev NewO (led : Led) (o : Obj) : Value -> Led -> Prop := fun v l => ∃ D, v = .ref D /\ l = (D, o) :: led
theorem q18 {vs vs' : List Value} (h : vs'.map eV = vs) : eO (W.listOf vs'.toArray 0) = lsO vs := by
 rw [<- h]
 simp only [eO, tokC, Bool.or_true, Bool.true_or, beq_self_eq_true, cond_true, eD, Obj.mk.injEq, Data.seq.injEq, and_true, true_and]
 exact ⟨List.map_toArray, rfl⟩
theorem q13 {vs vs' : List Value} {k : Nat} (h : vs'.map eV = vs) : eO (W.listOf vs'.toArray k) = lsO vs := by
 rw [<- h]
 simp only [eO, tokC, Bool.or_true, Bool.true_or, beq_self_eq_true, cond_true, eD, Obj.mk.injEq, Data.seq.injEq, and_true, true_and]
 exact ⟨List.map_toArray, rfl⟩
theorem q1y {vs vs' : List Value} (h : vs'.map eV = vs) : eO { cls := .type "tuple", data := .seq vs'.toArray } = tpO vs := by
 rw [<- h]
 simp only [eO, tokC, Bool.or_true, Bool.true_or, beq_self_eq_true, cond_true, eD, Obj.mk.injEq, Data.seq.injEq, and_true, true_and]
 exact ⟨List.map_toArray, rfl⟩
theorem EvG.list {es : List Expr} {vs : List Value} (ha : EvA c m led es vs) (hz : vs.length <= sizeLine) : EvG c m led (.List es pos) (NewO led (lsO vs)) := by
 intro Q E s S k
 refine List_ (ha _ _ _ s S fun vs' s1 ev S1 => ?_)
 (refine q00 S1 fun m' led' F hm' N hl hn hg => ?_; (try clear S1))
 refine newList_K F N (fun D h' F' N' l1 => k _ _ _ ⟨D, rfl, rfl⟩ ⟨m', _, F', hm', N', ?_, q0d hl hn l1, hg⟩) (by rw [<- ev, List.length_map] at hz; exact hz)
 rw [List.map_cons, hl, eP, q18 ev]
theorem EvG.tup {es : List Expr} {vs : List Value} {k : Nat} (ha : EvA c m led es vs) (hz : vs.length <= sizeLine) : EvG c m led (.Tuple es k pos) (NewO led (tpO vs)) := by
 intro Q E s S k
 refine Tuple_ (ha _ _ _ s S fun vs' s1 ev S1 => ?_)
 (refine q00 S1 fun m' led' F hm' N hl hn hg => ?_; (try clear S1))
 refine kup_newTuple F N (fun D h' F' N' l1 => k _ _ _ ⟨D, rfl, rfl⟩ ⟨m', _, F', hm', N', ?_, q0d hl hn l1, hg⟩) (by rw [<- ev, List.length_map] at hz; exact hz)
 rw [List.map_cons, hl, eP, q1y ev]
theorem Ev.item {D : Addr} {vs : List Value} {i : Nat} {k : Int} {v : Value} (ha : Ev c m led a (.ref D)) (hb : Ev c m led b (.int k 0)) (hi : led[i]? = some (D, lsO vs)) (h0 : 0 <= k) (h1 : k < 2 ^ 63) (hv : vs[k.toNat]? = some v)
  (hs : ∀ u, subscripted b false (.ref D) (.int k u) = operate [.ref D, .int k u] (getItem (.ref D) (.int k u))) : Ev c m led (.Subscript a b pos) v := by
 intro Q E s S h
 refine Subscript_ (ha _ _ s S fun va s1 ea S1 => hb _ _ s1 S1 fun vb s2 eb S2 => ?_)
 obtain rfl := q04 ea
 (refine E_e (q0a eb) fun u z1z => ?_; subst z1z)
 have S0 := S2
 (refine q0g S2 fun m' led' F hm' N hl _ => ?_; (try clear S2))
 (refine E_ea (q03 hl hi) fun o' h2 h3 => ?_)
 (refine q07 (q0b h3) fun its n z1z h4 => ?_; subst z1z)
 rw [<- h4, List.getElem?_map, Option.map_eq_some_iff] at hv
 (refine E_ea hv fun v' h5 h6 => ?_; (try clear hv))
 exact q8l (News.isList N (List.mem_of_getElem? h2)) h0 h1 h5 (h _ _ h6 S0) (hs u)
theorem Ev.titem {D : Addr} {vs : List Value} {i : Nat} {k : Int} {j : Nat} {v : Value} (ha : Ev c m led a (.ref D)) (hb : Ev c m led b (.int k 0)) (hi : led[i]? = some (D, tpO vs)) (h0 : -(2 ^ 63) <= k) (h1 : k < 2 ^ 63) (hj : seqIndex? k vs.length = some j) (hv : vs[j]? = some v)
  (hs : ∀ u, subscripted b false (.ref D) (.int k u) = operate [.ref D, .int k u] (getItem (.ref D) (.int k u))) : Ev c m led (.Subscript a b pos) v := by
 intro Q E s S h
 refine Subscript_ (ha _ _ s S fun va s1 ea S1 => hb _ _ s1 S1 fun vb s2 eb S2 => ?_)
 obtain rfl := q04 ea
 (refine E_e (q0a eb) fun u z1z => ?_; subst z1z)
 have S0 := S2
 (refine q0g S2 fun m' led' F hm' N hl _ => ?_; (try clear S2))
 (refine E_ea (q03 hl hi) fun o' h2 h3 => ?_)
 (refine q07 (q8q h3) fun its n z1z h4 => ?_; subst z1z)
 have hj' : seqIndex? k its.length = some j := by rw [<- h4, List.length_map] at hj; exact hj
 rw [<- h4, List.getElem?_map, Option.map_eq_some_iff] at hv
 (refine E_ea hv fun v' h5 h6 => ?_; (try clear hv))
 exact item_tupleT (News.isTup N (List.mem_of_getElem? h2)) h0 h1 hj' h5 (h _ _ h6 S0) (hs u)
theorem Ev.len {D : Addr} {vs : List Value} {i : Nat} (hf : Ev c m led e (.builtin "len")) (ha : Ev c m led a (.ref D)) (hi : led[i]? = some (D, lsO vs)) (hz : vs.length < 2 ^ 62)
  (hc : eval (.Call e [a] [] pos) c.env = (do callWith pos (<- eval e c.env) [] (backTo pos (starEach [a] c.env)) (backToKw pos (keywordEach [] c.env)))) (hs : starEach [a] c.env = (false, eval a c.env) :: starEach [] c.env) : Ev c m led (.Call e [a] [] pos) (.int vs.length 0) := by
 intro Q E s S h
 refine Call_ (hf _ _ s S fun vf s0 ef S0 => ?_) hc
 obtain rfl := q0t ef
 refine PyProof.Rows.callWith_builtin1 (args_cons (ha _ _ s0 S0 fun va s1 ea S1 => args_nil ?_) hs) hs rfl
 obtain rfl := q04 ea
 have S2 := S1
 (refine q0g S1 fun m' led' F hm' N hl _ => ?_; (try clear S1))
 (refine E_ea (q03 hl hi) fun o' h2 h3 => ?_)
 (refine q07 (q0b h3) fun its n z1z h4 => ?_; subst z1z)
 refine KM.len_K N (List.mem_of_getElem? h2) (by rw [List.size_toArray, <- List.length_map (f := eV), h4]) hz (h _ _ rfl S2)
theorem SS.upd {s : Shared} {i : Nat} {D : Addr} {o : Obj} {h' : Heap} {led' : Led} {m' : Fm} {o' o2 : Obj} {tk : Nat} (hm' : ∀ x, (m' x).map eV = m x) (hl : led'.map eP = led) (hn : (led.map (·.1)).Nodup) (hg : c.gp s.gens s.drawn s.os) (hi : led[i]? = some (D, o)) (F' : Fr c.h₀ c.L h' m') (N' : News c.h₀ c.L h' (led'.set i (D, o2))) (he : eO o2 = o') :
  SS c m (led.set i (D, o')) { s with heap := h', toks := tk } := ⟨m', _, F', hm', N', by rw [q6d hl, he], by rw [q7y hi]; exact hn, hg⟩
theorem EvG.append {pl : Sem Bool} {D : Addr} {R R' : Value -> Led -> Prop} {vs : List Value} {ap : Pos} (ha : Ev c m led a (.ref D)) (hb : EvG c m led b R) (hR : ∀ v l, R v l -> ∃ i : Nat, l[i]? = some (D, lsO vs) /\ R' .none (l.set i (D, lsO (vs ++ [v])))) (hi0 : ∃ i : Nat, led[i]? = some (D, lsO vs)) (hz : vs.length <= sizeLine)
  (hc : eval (.Call (.Attribute a "append" ap) [b] [] pos) c.env = (do let ov <- eval a c.env; standAt ap.atName; let (f, first) <- holding [ov] (getMethod ov "append" pl); callWith pos f first (backTo pos (starEach [b] c.env)) [])) (hs : starEach [b] c.env = (false, eval b c.env) :: starEach [] c.env) :
  EvG c m led (.Call (.Attribute a "append" ap) [b] [] pos) R' := by
 intro Q E s S h
 obtain ⟨i0, hi0⟩ := hi0
 refine MethodCall_ (ha _ _ s S fun va s1 ea S1 => ?_) hc
 obtain rfl := q04 ea
 have S2 := S1
 obtain ⟨m', led', F, hm', N, hl, _⟩ := S1
 obtain ⟨o', h2, h3⟩ := q03 hl hi0
 (refine q07 (q0b h3) fun its n z1z h4 => ?_; subst z1z)
 refine listMethod_K N (List.mem_of_getElem? h2) PySem.F.slot_list_append PySem.F.type_list_append ?_
 refine PyProof.Rows.callWith_method1 (args_cons (hb _ _ s1 S2 fun vb l s3 eb S3 => args_nil ?_) hs) hs rfl
 (refine E_ea (hR _ _ eb) fun j hj hr => ?_)
 clear F hm' N hl h2 h3 h4
 (refine q00 S3 fun m' led' F hm' N hl hn hg => ?_; (try clear S3))
 (refine E_ea (q03 hl hj) fun o' h2 h3 => ?_)
 (refine q07 (q0b h3) fun its n z1z h4 => ?_; subst z1z)
 refine append_K F N (q1x h2 (by rw [q0e hl]; exact hn)) (fun h' F' N' => h _ _ _ hr (SS.upd hm' hl hn hg hj F' N' ?_)) (by rw [List.size_toArray, <- List.length_map (f := eV), h4]; exact hz)
 rw [List.push_toArray]
 exact q13 (by rw [List.map_append, h4]; rfl)
end
end
section
section
variable {c : Cx} {m : Fm} {led : Led} {a b e : Expr} {pos : Pos} {rest : List Stmt} {P : Flow -> Shared -> Prop} {x : Str}
theorem Bd.aug {op : Operator} {i j : Int} {v : Value} {p' : Pos} (ok : c.Ok) (hcl : c.cl = []) (hm : m x = some (.int i 0)) (he : Ev c m led e (.int j 0))
  (ho : ∀ (Q E : Value -> Shared -> Prop) s t u, (∀ v' tk, eV v' = v -> Q v' { s with toks := tk }) -> wpAny c.M c.A (inplaceOp op (.int i t) (.int j u)) Q E s)
  (hr : Bd c (updM m x v) led rest P) (hk : c.env.kindOf x = some .local) : Bd c m led (.AugAssign (.Name x p') op e pos :: rest) P := by
 intro Q E s hE S k
 refine wpAny_execs_cons (wpAny_AugAssign_Name ?_)
 have S0 := S
 (refine q08 S fun m' led' F hm' _ => ?_; (try clear S))
 have q := hm' x
 rw [hm] at q
 (refine E_ea (Option.map_eq_some_iff.mp q) fun v' e1 e2 => ?_)
 (refine E_e (q0a e2) fun t z1z => ?_; subst z1z)
 have hEv : c.env = envOf c.cn c.cs c.L c.a c.ccd := by rw [ok.E]; unfold Cx.denv envX; rw [hcl]; rfl
 rw [hEv]
 refine ldn F e1 ?_ ok.K (hEv ▸ hk)
 rw [<- hEv]
 refine he _ _ s S0 fun v2 s1 ev S1 => ?_
 (refine E_e (q0a ev) fun u z1z => ?_; subst z1z)
 exact ho _ _ _ _ _ fun v' tk hv => SS.store (s := { s1 with toks := tk }) ok S1 hv hk fun s2 S2 => hr _ _ _ hE S2 k
theorem Bd.whl {test : Expr} {body : List Stmt} {n0 : Nat} (I : Nat -> Fm -> Led -> Prop) (h0 : I n0 m led)
  (turn : ∀ n m1 led1, I n m1 led1 -> ∃ b, Tb c m1 led1 test b /\ (b = true -> Bd c m1 led1 body (fun f s' => f = .next /\ ∃ n' m2 led2, n' < n /\ I n' m2 led2 /\ SS c m2 led2 s')) /\ (b = false -> Bd c m1 led1 rest P)) (one : c.One) :
  Bd c m led (.While test body [] pos :: rest) P := by
 intro Q E s hE S k
 refine wpAny_execs_cons ?_
 have S0 := S
 (refine q00 S fun m' led' F hm' N hl hn hg => ?_; (try clear S))
 refine While_inv (h₀ := c.h₀) (L := c.L) (n₀ := n0) (fun n m1 l1 => (l1.map eP |>.map (·.1)).Nodup /\ ∃ m2, (∀ x, (m1 x).map eV = m2 x) /\ I n m2 (l1.map eP)) F N ⟨by rw [hl]; exact hn, m, hm', by rw [hl]; exact h0⟩ ?_ hE
 intro n m1 l1 h1 tk1 F1 N1 hJ
 (refine qg0 hJ fun hn1 m2 hm2 hI => ?_; (try clear hJ))
 have S1 : SS c m2 (l1.map eP) { s with heap := h1, toks := tk1 } := ⟨m1, l1, F1, hm2, N1, rfl, hn1, hg⟩
 (refine q1u (turn n m2 _ hI) fun b ht hb1 hb2 => ?_)
 refine ht _ _ _ S1 fun s2 S2 => ?_
 cases b with
 | true =>
  rw [if_pos rfl]
  refine hb1 rfl _ _ _ hE S2 fun f s3 h => ?_
  (refine q4k h fun z1z n' m3 led3 hlt hI3 m4 l4 F4 hm4 N4 hl4 hn4 hg4 => ?_; (try clear h); subst z1z)
  have e3 : s3 = { heap := s3.heap, gens := s.gens, drawn := s.drawn, toks := s3.toks, os := s.os } := by
   (refine q2n one fun g d o ho => ?_; (try clear one))
   rw [ho] at hg hg4
   rw [hg.1, <- hg4.1, hg.2.1, <- hg4.2.1, hg.2.2, <- hg4.2.2]
  rw [e3]
  exact WhileStep.intro F4 N4 hlt ⟨by rw [hl4]; exact hn4, m3, hm4, by rw [hl4]; exact hI3⟩
 | false =>
  rw [if_neg (by decide)]
  exact hb2 rfl _ _ _ hE S2 k
theorem EvG.callG {f : Value} {es : List Expr} {vs : List Value} {R : Value -> Led -> Prop} (ok : c.OkG) (hf : Ev c m led e f) (hfv : ∀ v, eV v = f -> v = f) (hk : keepIn (Mine.hd.heap_1 c.w.params) f = true) (ha : EvA c m led (a :: es) vs) (hcl : Cl c m led f vs R)
  (hc : eval (.Call e (a :: es) [] pos) c.env = (do callWith pos (<- eval e c.env) [] (backTo pos (starEach (a :: es) c.env)) (backToKw pos (keywordEach [] c.env)))) (hs : starEach (a :: es) c.env = (false, eval a c.env) :: starEach es c.env) (hs2 : ((backTo pos (starEach es c.env)).any fun x => x.fst) = false) : EvG c m led (.Call e (a :: es) [] pos) R := by
 intro Q E s S k
 refine Call_ (hf _ _ s S fun vf s0 ef S0 => ?_) hc
 obtain rfl := hfv _ ef
 have S00 := S0
 (refine q07 S0 fun m' led' F _ => ?_; (try clear S0))
 refine callWith_K (ok.X.keeps F.keep) hk ?_ hs hs2
 refine ha _ _ _ s0 S00 fun vs' s1 es' S1 => ?_
 have S11 := S1
 (refine q07 S1 fun m1 led1 F1 _ => ?_; (try clear S1))
 refine ⟨ok.X.keeps F1.keep, ?_⟩
 rw [List.nil_append]
 exact hcl _ _ _ s1 S11 es' k
noncomputable abbrev Cx.under (c : Cx) (qual : Str) (scope : Scope) (L' f : Addr) (cdv : Value) (g : Heap) (cl' : List (Str × Addr)) : Cx :=
 { w := c.w, dp := c.dp + 1, un := c.un + 3, gd := c.gd, cn := qual, cs := scope, L := L', a := f, ccd := cdv, cl := cl', outer := c.denv :: c.outer, h₀ := g, env := envX qual scope L' f cdv cl', gp := c.gp }
noncomputable def Out (c' : Cx) (R : Value -> Led -> Prop) : Flow -> Shared -> Prop := fun fl s' => ∃ m' l, SS c' m' l s' /\ R (eV (match fl with | .ret v => v | _ => .none)) l
theorem qdp (NS : List Str) (vs : List Value) (x : Str) : ((NS.zip vs).reverse.lookup x).map eV = (NS.zip (vs.map eV)).reverse.lookup x := by
 have key : ∀ l : List (Str × Value), (l.lookup x).map eV = (l.map fun p => (p.1, eV p.2)).lookup x := by
  intro l
  induction l with
  | nil => rfl
  | cons p l ih =>
   obtain ⟨p1, p2⟩ := p
   rw [List.map_cons, List.lookup_cons, List.lookup_cons]
   cases x == p1
   ·exact ih
   ·rfl
 rw [key, List.map_reverse, List.zip_map_right]
 congr 2
theorem ClK.dfnD {f : Addr} {vs : List Value} {R : Value -> Led -> Prop} {name qual : Str} {params : Arguments} {body : List Stmt} {scope : Scope} {dV kV doc pm cdv ct oc : Value} {an od : Option Addr} {osl : Array (Option Value)} (NS : List Str) (dv : List Value) (ok : c.OkG)
  (ho : (Mine.hd.heap_1 c.w.params).lookup f = some ⟨oc, od, .func (fnOf name qual params body scope dV kV doc pm an cdv ct), osl⟩) (hcd : codeIn (Mine.hd.heap_1 c.w.params) cdv qual = true) (hroom : c.dp < recursionLimit)
  (hbind : ∀ s vs', (Mine.hd.heap_1 c.w.params).In s.heap -> vs'.length = vs.length -> BindsTo s (fnOf name qual params body scope dV kV doc pm an cdv ct) ⟨vs', []⟩ (NS.zip (vs' ++ dv)))
  (hloc : (NS.all fun n => scope.names.lookup n == some .local) = true)
  (hco : scope.isCoroutine = false) (hgen : scope.isGenerator = false) (hk : scope.kind = .function) (hcell : ∀ x ∈ scope.names, x.2 ≠ .cell)
  (h : ∀ L' g, (c.under qual scope L' f cdv g []).Ok -> (∀ p ∈ led, @LT.lt Nat _ p.1 L') -> Bd (c.under qual scope L' f cdv g []) (fun x => (NS.zip (vs ++ dv.map eV)).reverse.lookup x) led body (Out (c.under qual scope L' f cdv g []) R)) : ClK c m led (.ref f) vs R := by
 intro vs' Q E s S hv k
 (refine q00 S fun m' led' F hm' N hl hn hg => ?_; (try clear S))
 (refine q08 (ok.B) fun A₀ base B C1 C2 => ?_)
 (refine q0y (ok.T) fun p loose mean mg mb T => ?_)
 have hlen : vs'.length = vs.length := by rw [<- hv, List.length_map]
 have hloc' : ∀ y ∈ NS.zip (vs' ++ dv), scope.names.lookup y.1 = some .local := fun y hy => beq_iff_eq.mp (List.all_eq_true.mp hloc y.1 (List.of_mem_zip hy).1)
 refine (Mine.code_defR (rest := []) (own := led') (env := c.denv) (outer := c.outer) B F ok.X N (fun _ h => nomatch h) (fun _ h => nomatch h) T rfl rfl ok.K ho hcd hroom (hbind s vs' (ok.X.keeps F.keep) hlen) hloc' ?_ hco hgen hk hcell)
 intro g L' h₁ FG F' N' B' X' T' hlt _
 have okc : (c.under qual scope L' f cdv g []).Ok := ⟨⟨⟨_, base, B', C1, C2⟩, X', ⟨p, loose, mean, mg, mb, T'⟩, hk, hk, rfl, rfl⟩, rfl⟩
 refine h L' g okc (fun p hp => ?_) _ _ _ PassesOwn.leaving ⟨_, led', F', fun x => ?_, N', hl, hn, hg⟩ fun fl s' ho' => ?_
 ·rw [<- hl] at hp
  (refine E_ea (List.mem_map.mp hp) fun q hq z1z => ?_; subst z1z)
  exact hlt q hq
 ·rw [qdp, List.map_append, hv]
 ·(refine q07 ho' fun m2 l2 z1z hR => ?_; (try clear ho'); obtain ⟨m3, l3, F3, hm3, N3, hl3, hn3, hg3⟩ := z1z)
  refine ⟨L', m3, l3, F3, N3, fun FF NN _ => ?_⟩
  exact k _ _ _ hR ⟨m', l3, FF, hm', NN, hl3, hn3, hg3⟩
theorem Cl.dfnD {f : Addr} {vs : List Value} {R : Value -> Led -> Prop} {name qual : Str} {params : Arguments} {body : List Stmt} {scope : Scope} {dV kV doc pm cdv ct oc : Value} {an od : Option Addr} {osl : Array (Option Value)} (NS : List Str) (dv : List Value) (ok : c.OkG)
  (ho : (Mine.hd.heap_1 c.w.params).lookup f = some ⟨oc, od, .func (fnOf name qual params body scope dV kV doc pm an cdv ct), osl⟩) (hcd : codeIn (Mine.hd.heap_1 c.w.params) cdv qual = true) (hroom : c.dp < recursionLimit)
  (hbind : ∀ s vs', (Mine.hd.heap_1 c.w.params).In s.heap -> vs'.length = vs.length -> BindsTo s (fnOf name qual params body scope dV kV doc pm an cdv ct) ⟨vs', []⟩ (NS.zip (vs' ++ dv)))
  (hloc : (NS.all fun n => scope.names.lookup n == some .local) = true)
  (hco : scope.isCoroutine = false) (hgen : scope.isGenerator = false) (hk : scope.kind = .function) (hcell : ∀ x ∈ scope.names, x.2 ≠ .cell)
  (h : ∀ L' g, (c.under qual scope L' f cdv g []).Ok -> (∀ p ∈ led, @LT.lt Nat _ p.1 L') -> Bd (c.under qual scope L' f cdv g []) (fun x => (NS.zip (vs ++ dv.map eV)).reverse.lookup x) led body (Out (c.under qual scope L' f cdv g []) R)) : Cl c m led (.ref f) vs R :=
 (ClK.dfnD NS dv ok ho hcd hroom hbind hloc hco hgen hk hcell h).cl
theorem Cl.dfn {f : Addr} {vs : List Value} {R : Value -> Led -> Prop} {name qual : Str} {params : Arguments} {body : List Stmt} {scope : Scope} {dV kV doc pm cdv ct oc : Value} {an od : Option Addr} {osl : Array (Option Value)} (NS : List Str) (ok : c.Ok)
  (ho : (Mine.hd.heap_1 c.w.params).lookup f = some ⟨oc, od, .func (fnOf name qual params body scope dV kV doc pm an cdv ct), osl⟩) (hcd : codeIn (Mine.hd.heap_1 c.w.params) cdv qual = true) (hroom : c.dp < recursionLimit)
  (hbind : ∀ s vs', vs'.length = vs.length -> BindsTo s (fnOf name qual params body scope dV kV doc pm an cdv ct) ⟨vs', []⟩ (NS.zip vs'))
  (hloc : (NS.all fun n => scope.names.lookup n == some .local) = true)
  (hco : scope.isCoroutine = false) (hgen : scope.isGenerator = false) (hk : scope.kind = .function) (hcell : ∀ x ∈ scope.names, x.2 ≠ .cell)
  (h : ∀ L' g, (c.under qual scope L' f cdv g []).Ok -> (∀ p ∈ led, @LT.lt Nat _ p.1 L') -> Bd (c.under qual scope L' f cdv g []) (fun x => (NS.zip vs).reverse.lookup x) led body (Out (c.under qual scope L' f cdv g []) R)) : Cl c m led (.ref f) vs R := by
 refine Cl.dfnD NS [] ok.toOkG ho hcd hroom (fun s vs' _ hl => by rw [List.append_nil]; exact hbind s vs' hl) hloc hco hgen hk hcell fun L' g ok' hlt => ?_
 rw [List.map_nil, List.append_nil]
 exact h L' g ok' hlt
theorem EvG.call {f : Value} {es : List Expr} {vs : List Value} {R : Value -> Led -> Prop} (ok : c.Ok) (hf : Ev c m led e f) (hfv : ∀ v, eV v = f -> v = f) (hk : keepIn (Mine.hd.heap_1 c.w.params) f = true) (ha : EvA c m led (a :: es) vs) (hcl : Cl c m led f vs R)
  (hc : eval (.Call e (a :: es) [] pos) c.env = (do callWith pos (<- eval e c.env) [] (backTo pos (starEach (a :: es) c.env)) (backToKw pos (keywordEach [] c.env)))) (hs : starEach (a :: es) c.env = (false, eval a c.env) :: starEach es c.env) (hs2 : ((backTo pos (starEach es c.env)).any fun x => x.fst) = false) : EvG c m led (.Call e (a :: es) [] pos) R := EvG.callG ok.toOkG hf hfv hk ha hcl hc hs hs2
end
end
section
section
variable {c : Cx} {m : Fm} {led : Led} {a b e : Expr} {pos : Pos} {rest : List Stmt} {P : Flow -> Shared -> Prop} {x : Str}
theorem q59 (l : Led) : (l.map eP).map (·.1) = l.map (·.1) := (q0e (led' := l) rfl).symm
theorem Bd.rng {n : Nat} {body : List Stmt} {px p2 : Pos} {f : Expr} (I : Nat -> Fm -> Led -> Prop) (hk : c.env.kindOf x = some .local) (hpk : (c.env.scope.kind == .class || (c.env.scope.kind == .module && c.env.locals != c.env.globals)) = false)
  (hf : Ev c m led f (.type "range")) (he : Ev c m led e (.int n 0)) (hn : n < 1000) (h0 : I 0 m led)
  (turn : ∀ i m1 led1 It io, i < n -> tokC io.cls = false -> I i m1 led1 -> Bd c (updM m1 x (.int i 0)) ((It, io) :: led1) body (fun f s' => (f = .next ∨ f = .cont) /\ ∃ m2 led2, I (i + 1) m2 led2 /\ SS c m2 ((It, io) :: led2) s'))
  (done : ∀ m1 led1, I n m1 led1 -> Bd c m1 led1 rest P)
  (hc : eval (.Call f [e] [] p2) c.env = (do callWith p2 (<- eval f c.env) [] (backTo p2 (starEach [e] c.env)) (backToKw p2 (keywordEach [] c.env)))) (hs : starEach [e] c.env = (false, eval e c.env) :: starEach [] c.env)
  (hfs : ∀ v : Value, foldedSetIterable (.Call f [e] [] p2) c.env v = pure v) (hL : c.env.locals = c.L := by rfl) : Bd c m led (.For (.Name x px) (.Call f [e] [] p2) body [] pos :: rest) P := by
 obtain ⟨w, dp, un, gd, cn, cs, L, fa, ccd, cl, outer, h₀, env, gp⟩ := c
 dsimp only at hL
 subst hL
 let c : Cx := { w := w, dp := dp, un := un, gd := gd, cn := cn, cs := cs, L := env.locals, a := fa, ccd := ccd, cl := cl, outer := outer, h₀ := h₀, env := env, gp := gp }
 intro Q E s hE S k
 refine wpAny_execs_cons (wpAny_For (Call_ (hf _ _ s S fun vf s0 ef S0 => ?_) hc) hfs)
 obtain rfl := q44 ef
 refine PyProof.Rows.callWith_type1 (args_cons (he _ _ s0 S0 fun va s1 ea S1 => args_nil ?_) hs) hs rfl
 (refine E_e (q0a ea) fun t z1z => ?_; subst z1z)
 (refine q00 S1 fun m' led' F hm' N hl hnd hg => ?_; (try clear S1))
 refine range1_rows F N fun h' tk t1 u1 v1 hR F' N' _ => ?_
 refine Mine.for_rngM (h₀ := c.h₀) (n := n) (fun (i : Nat) (s' : Shared) (m1 : Fm) (l1 : Led) => (List.map (fun p : Addr × Obj => p.1) (l1.map eP)).Nodup /\ (∃ m2 : Fm, (∀ x, (m1 x).map eV = m2 x) /\ I i m2 (l1.map eP)) /\ c.gp s'.gens s'.drawn s'.os) rfl hR (Mine.rng_up n hn).1 (Mine.rng_up n hn).2 hk hpk F' N' ⟨by rw [hl]; exact hnd, ⟨m, hm', by rw [hl]; exact h0⟩, hg⟩ (fun _ _ _ _ _ _ h => h) ?_ ?_ hE
 ·intro It i ti s1 m1 l1 o hi ho hJ hoff F1 N1
  (refine E_aa hJ fun hn1 z1z hg1 => ?_; (try clear hJ); obtain ⟨m2, hm2, hI⟩ := z1z)
  have htk : tokC o.cls = false := by rw [ho.1]; rfl
  have S1 : SS c (updM m2 x (.int i 0)) ((It, o) :: l1.map eP) s1 := by
   refine ⟨_, (It, o) :: l1, F1, fun y => ?_, N1, ?_, ?_, hg1⟩
   ·unfold updM
    by_cases q : y = x
    ·rw [if_pos q, if_pos q, Option.map_some, show (0 : Int) + (i : Int) * 1 = i by exact o84]; rfl
    ·rw [if_neg q, if_neg q]; exact hm2 y
   ·rw [List.map_cons]
    show (It, eO o) :: _ = _
    rw [show eO o = o by unfold eO; rw [htk]; rfl]
   ·rw [List.map_cons, List.nodup_cons]
    refine ⟨fun h => ?_, hn1⟩
    rw [q59] at h
    (refine E_ea (List.mem_map.mp h) fun p hp e' => ?_)
    exact hoff p hp e'
  refine turn i m2 _ It o hi htk hI _ _ s1 hE S1 fun f s3 h => ?_
  (refine q5j h fun hf3 m3 led3 hI3 m4 l4 F4 hm4 N4 hl4 hn4 hg4 => ?_; (try clear h))
  have key : ∃ m₃ led₃, Fr c.h₀ c.env.locals s3.heap m₃ /\ News c.h₀ c.env.locals s3.heap ((It, o) :: led₃) /\ (∀ p ∈ led₃, @Ne Nat p.1 It) /\ (((led₃.map eP).map (·.1)).Nodup /\ (∃ m2, (∀ x, (m₃ x).map eV = m2 x) /\ I (i + 1) m2 (led₃.map eP)) /\ c.gp s3.gens s3.drawn s3.os) := by
   cases l4 with
   | nil => simp at hl4
   | cons p l5 =>
    rw [List.map_cons, List.cons.injEq] at hl4
    (refine E_a hl4 fun q1 q2 => ?_; (try clear hl4))
    rw [List.map_cons, List.nodup_cons] at hn4
    have q3 : p = (It, o) := by
     obtain ⟨p1, p2⟩ := p
     simp only [eP, Prod.mk.injEq] at q1
     rw [q1.1, qba (o := p2) (o' := o) (by rw [q1.2]; unfold eO; rw [htk]; rfl) htk]
    subst q3
    refine ⟨m4, l5, F4, N4, fun q hq e' => hn4.1 ?_, by rw [q2]; exact hn4.2, ⟨m3, hm4, by rw [q2]; exact hI3⟩, hg4⟩
    rw [<- q2, q59]
    exact List.mem_map.mpr ⟨q, hq, e'⟩
  rcases hf3 with rfl | rfl
  ·exact key
  ·exact key
 ·intro s1 m1 l1 hJ F1 N1
  (refine E_aa hJ fun hn1 z1z hg1 => ?_; (try clear hJ); obtain ⟨m2, hm2, hI⟩ := z1z)
  exact done m2 _ hI _ _ s1 hE ⟨m1, l1, F1, hm2, N1, rfl, hn1, hg1⟩ k
end
end
section
theorem SS.drop {c : Cx} {m : Fm} {led : Led} {p : Addr × Obj} {s : Shared} (h : SS c m (p :: led) s) : SS c m led s := by
 (refine q00 h fun m' led' F hm' N hl hn hg => ?_; (try clear h))
 cases led' with
 | nil => simp at hl
 | cons q led' =>
  rw [List.map_cons, List.cons.injEq] at hl
  rw [List.map_cons, List.nodup_cons] at hn
  exact ⟨m', led', F, hm', fun r hr => N r (.tail _ hr), hl.2, hn.2, hg⟩
theorem SS.drops {c : Cx} {m : Fm} {led : Led} {s : Shared} : ∀ {g : Led}, SS c m (g ++ led) s -> SS c m led s
 | [], h => h
 | _ :: _, h => SS.drops (SS.drop h)
theorem q85 {l l' : Led} {p : Addr × Obj} : (l ++ p :: l')[l.length]? = some p := by rw [List.getElem?_append_right (Nat.le_refl _), Nat.sub_self]; rfl
theorem q3e {l : Led} {p : Addr × Obj} : (p :: l)[0]? = some p := rfl
theorem q06 {l : Led} {p q : Addr × Obj} {i : Nat} (h : l[i]? = some p) : (q :: l)[i + 1]? = some p := h
theorem q0f {l ex : Led} {p : Addr × Obj} {i : Nat} (h : l[i]? = some p) : (ex ++ l)[ex.length + i]? = some p := by rw [List.getElem?_append_right (Nat.le_add_right _ _), Nat.add_sub_cancel_left]; exact h
theorem qay {l l' : Led} {p q : Addr × Obj} : (l ++ p :: l').set l.length q = l ++ q :: l' := by
 induction l with
 | nil => rfl
 | cons a l ih => rw [List.cons_append, List.length_cons, List.set_cons_succ, ih]; rfl
section
variable {c : Cx} {m : Fm} {led : Led} {a b e : Expr} {pos : Pos} {rest : List Stmt} {P : Flow -> Shared -> Prop} {x : Str}
noncomputable def valI : Value -> Int
 | .int i _ => i
 | _ => 0
theorem Tb.inn {i : Int} {vs : List Value} {es : List Expr} {k : Nat} {p2 : Pos} (ha : Ev c m led a (.int i 0)) (he : EvA c m led es vs) (hv : (vs.map valI).map vI = vs) (hz : vs.length <= sizeLine) (hm : behindInMarks .In (.Tuple es k p2) = false) : Tb c m led (.Compare a [.In] [.Tuple es k p2] pos) ((vs.map valI).any fun y => y == i) := by
 intro Q E s S h
 generalize vs.map valI = ns at hv h
 subst hv
 rw [List.length_map] at hz
 refine wpAny_isTrue_Compare1 (ha _ _ s S fun va s1 ea S1 => ?_) hm
 (refine E_e (q0a ea) fun t z1z => ?_; subst z1z)
 refine EvG.tup he (by rw [List.length_map]; exact hz) _ _ s1 S1 fun vb l s2 hv S2 => ?_
 (refine E_ea hv fun D hD z1z => ?_; (try clear hv); subst z1z)
 obtain rfl := q04 hD
 have S3 := S2
 (refine q0g S2 fun m' led' F hm' N hl _ => ?_; (try clear S2))
 (refine E_ea (q03 (i := 0) hl rfl) fun o' h2 h3 => ?_)
 (refine q07 (q8q h3) fun its n z1z h4 => ?_; subst z1z)
 exact in_tuple_ints (News.isTup N (List.mem_of_getElem? h2)) (by rw [List.toList_toArray]; exact q0r h4) (wpAny_truthy_bool (h _ S3.drop))
theorem EvG.ifx {test : Expr} {R : Value -> Led -> Prop} {r : Bool} (ht : Tb c m led test r) (h1 : r = true -> EvG c m led a R) (h2 : r = false -> EvG c m led b R) : EvG c m led (.IfExp test a b pos) R := by
 intro Q E s S k
 refine IfExp_ (ht _ _ s S fun s1 S1 => ?_)
 cases r with
 | true => rw [if_pos rfl]; exact h1 rfl _ _ s1 S1 k
 | false => rw [if_neg (by decide)]; exact h2 rfl _ _ s1 S1 k
noncomputable def EvGA (c : Cx) (m : Fm) (led : Led) (es : List Expr) (R : List Value -> Led -> Prop) : Prop :=
 ∀ pos (Q : List Value -> Shared -> Prop) (E : Value -> Shared -> Prop) s, SS c m led s -> (∀ vs' l s', R (vs'.map eV) l -> SS c m l s' -> Q vs' s') -> wpAny c.M c.A (spliced (backTo pos (starEach es c.env))) Q E s
theorem EvGA.nil {R : List Value -> Led -> Prop} (h : R [] led) : EvGA c m led [] R := fun pos Q E s S k => args_nil (k _ _ _ h S)
theorem EvGA.cons {es : List Expr} {R1 : Value -> Led -> Prop} {R : List Value -> Led -> Prop} (h1 : EvG c m led a R1) (h2 : ∀ v l, R1 v l -> EvGA c m l es fun vs l' => R (v :: vs) l') (hs : starEach (a :: es) c.env = (false, eval a c.env) :: starEach es c.env) : EvGA c m led (a :: es) R := by
 intro pos Q E s S k
 exact args_cons (h1 _ _ s S fun v' l s1 e S1 => h2 _ _ e _ _ _ s1 S1 fun vs' l2 s2 es' S2 => k _ _ _ (by rw [List.map_cons]; exact es') S2) hs
theorem EvGA.consE {es : List Expr} {v : Value} {R : List Value -> Led -> Prop} (h1 : Ev c m led a v) (h2 : EvGA c m led es fun vs l' => R (v :: vs) l') (hs : starEach (a :: es) c.env = (false, eval a c.env) :: starEach es c.env) : EvGA c m led (a :: es) R :=
 EvGA.cons h1.g (fun _ _ h => by rw [h.1, h.2]; exact h2) hs
theorem EvG.tupG {es : List Expr} {k : Nat} {R : List Value -> Led -> Prop} {R' : Value -> Led -> Prop} (ha : EvGA c m led es R) (hz : ∀ vs l, R vs l -> vs.length <= sizeLine) (hR : ∀ vs l D, R vs l -> R' (.ref D) ((D, tpO vs) :: l)) : EvG c m led (.Tuple es k pos) R' := by
 intro Q E s S h
 refine Tuple_ (ha _ _ _ s S fun vs' l s1 ev S1 => ?_)
 (refine q00 S1 fun m' led' F hm' N hl hn hg => ?_; (try clear S1))
 refine kup_newTuple F N (fun D h' F' N' l1 => h _ _ _ (hR _ _ D ev) ⟨m', _, F', hm', N', ?_, q0d hl hn l1, hg⟩) (by have := hz _ _ ev; rw [List.length_map] at this; exact this)
 rw [List.map_cons, hl, eP, q1y rfl]
end
end
section
theorem qdq {led' : Led} : ∀ {l : Led}, (∀ p ∈ l, p ∈ led'.map eP) -> ∃ l' : Led, l'.map eP = l /\ ∀ q ∈ l', q ∈ led'
 | [], _ => ⟨[], rfl, fun _ h => nomatch h⟩
 | p :: l, h => by
  (refine E_ea (qdq (l := l) fun q hq => h q (.tail _ hq)) fun l' e hl => ?_)
  (refine E_ea (List.mem_map.mp (h p (.head _))) fun q hq z1z => ?_; subst z1z)
  exact ⟨q :: l', by rw [List.map_cons, e], fun r hr => (List.mem_cons.mp hr).elim (fun x => by rw [x]; exact hq) (hl r)⟩
theorem SS.sub {c : Cx} {m : Fm} {l l' : Led} {s : Shared} (h : SS c m l s) (hs : ∀ p ∈ l', p ∈ l) (hn : (l'.map (·.1)).Nodup) : SS c m l' s := by
 (refine q00 h fun m' led' F hm' N hl _ hg => ?_; (try clear h))
 (refine E_ea (qdq (led' := led') (l := l') fun p hp => by rw [hl]; exact hs p hp) fun l2 e h2 => ?_)
 exact ⟨m', l2, F, hm', fun q hq => N q (h2 q hq), e, hn, hg⟩
theorem SS.nodup {c : Cx} {m : Fm} {l : Led} {s : Shared} (h : SS c m l s) : (l.map (·.1)).Nodup := by
 (refine q00 h fun _ _ _ _ _ _ hn _ => ?_; (try clear h))
 exact hn
theorem SS.perm {c : Cx} {m : Fm} {l l' : Led} {s : Shared} (h : SS c m l s) (hp : l.Perm l') : SS c m l' s :=
 h.sub (fun _ hq => hp.mem_iff.mpr hq) ((hp.map _).nodup_iff.mp h.nodup)
theorem qfe {M : Fm} {a b : Str} {u v : Value} (h1 : M a = some u) (h2 : M b = some v) : M = updM (updM M b v) a u := by
 funext q
 unfold updM
 by_cases e1 : q = a
 ·rw [if_pos e1, e1, h1]
 rw [if_neg e1]
 by_cases e2 : q = b
 ·rw [if_pos e2, e2, h2]
 ·rw [if_neg e2]
theorem qft {M : Fm} {a b : Str} {u v u' v' : Value} : updM (updM (updM (updM M b v) a u) b v') a u' = updM (updM M b v') a u' := by
 funext q
 unfold updM
 by_cases e1 : q = a
 ·rw [if_pos e1, if_pos e1]
 rw [if_neg e1, if_neg e1]
 by_cases e2 : q = b
 ·rw [if_pos e2, if_neg e1, if_pos e2]
 ·rw [if_neg e2, if_neg e1, if_neg e2, if_neg e2]
section
variable {c : Cx} {m : Fm} {led : Led} {e : Expr} {pos : Pos} {rest : List Stmt} {P : Flow -> Shared -> Prop} {x : Str}
theorem Bd.whl2 {test : Expr} {body : List Stmt} {xa xb : Str} {u0 v0 : Int} {n0 : Nat} (J : Nat -> Int -> Int -> Prop) (ha : m xa = some (vI u0)) (hb : m xb = some (vI v0)) (h0 : J n0 u0 v0)
  (turn : ∀ n u v, J n u v -> ∃ b, Tb c (updM (updM m xb (vI v)) xa (vI u)) led test b /\ (b = true -> Bd c (updM (updM m xb (vI v)) xa (vI u)) led body (fun f s' => f = .next /\ ∃ n' u' v', n' < n /\ J n' u' v' /\ SS c (updM (updM m xb (vI v')) xa (vI u')) led s')) /\ (b = false -> Bd c (updM (updM m xb (vI v)) xa (vI u)) led rest P)) (one : c.One) :
  Bd c m led (.While test body [] pos :: rest) P := by
 refine Bd.whl (n0 := n0) (fun n m2 l2 => l2 = led /\ ∃ u v, m2 = updM (updM m xb (vI v)) xa (vI u) /\ J n u v) ⟨rfl, u0, v0, qfe ha hb, h0⟩ ?_ one
 (intro n; intro _; intro _; intro z1y; refine q1i z1y fun z2z u v z3z hJ => ?_; (try clear z1y); subst z2z; subst z3z)
 (refine q1u (turn n u v hJ) fun b h1 h2 h3 => ?_)
 refine ⟨b, h1, fun hb => (h2 hb).mono ?_, h3⟩
 (intro f; intro s; intro z1y; refine qc8 z1y fun h1 n' u' v' h2 h3 h4 => ?_; (try clear z1y))
 exact ⟨h1, n', _, _, h2, ⟨rfl, u', v', rfl, h3⟩, h4⟩
theorem Bd.iadd {i j : Int} {p' : Pos} (ok : c.Ok) (hcl : c.cl = []) (hm : m x = some (.int i 0)) (he : Ev c m led e (.int j 0)) (hr : Bd c (updM m x (.int (i + j) 0)) led rest P) (hk : c.env.kindOf x = some .local) : Bd c m led (.AugAssign (.Name x p') .Add e pos :: rest) P :=
 Bd.aug ok hcl hm he (fun _ _ _ _ _ k => iadd_int (k _ _ rfl)) hr hk
end
end
section
noncomputable def CellV (led : Led) (ca : Addr) (v : Value) : Prop := ∃ (i : Nat) (o : Obj) (v' : Value), led[i]? = some (ca, o) /\ o.data = .cell (some v') /\ eV v' = eV v
theorem qap {o o' : Obj} {v' : Value} (h : eO o' = o) (hd : o.data = .cell (some v')) : ∃ v2, o'.data = .cell (some v2) /\ eV v2 = eV v' := by
 rw [<- h] at hd
 unfold eO at hd
 cases hc : tokC o'.cls <;> rw [hc] at hd
 ·exact ⟨v', hd, rfl⟩
 ·obtain ⟨c1, d1, dt, sl⟩ := o'
  cases dt <;> simp only [cond_true, eD, reduceCtorEq, Data.cell.injEq] at hd
  rename_i ov
  cases ov with
  | none => cases hd
  | some v2 =>
   simp only [Option.map_some, Option.some.injEq] at hd
   exact ⟨v2, rfl, by rw [<- hd, qfk]⟩
theorem qfg {o : Obj} {v : Value} (hd : o.data = .cell (some v)) : ∃ v2, (eO o).data = .cell (some v2) /\ eV v2 = eV v := by
 unfold eO
 cases tokC o.cls
 ·exact ⟨v, hd, rfl⟩
 ·exact ⟨eV v, by rw [cond_true]; show eD _ o.data = _; rw [hd]; rfl, qfk v⟩
theorem CellV.get {led led' : Led} {ca : Addr} {v : Value} (hl : led'.map eP = led) (h : CellV led ca v) : ∃ o v2, (ca, o) ∈ led' /\ o.data = .cell (some v2) /\ eV v2 = eV v := by
 (refine q1o h fun i o v' h1 h2 h3 => ?_; (try clear h))
 (refine E_ea (q03 hl h1) fun o' h4 h5 => ?_)
 (refine E_ea (qap h5 h2) fun v2 h6 h7 => ?_)
 exact ⟨o', v2, List.mem_of_getElem? h4, h6, h7.trans h3⟩
theorem CellV.cons {led : Led} {ca : Addr} {v : Value} {p : Addr × Obj} (h : CellV led ca v) : CellV (p :: led) ca v := by
 (refine q1o h fun i o v' h1 h2 h3 => ?_; (try clear h))
 exact ⟨i + 1, o, v', h1, h2, h3⟩
section
variable {c : Cx} {m : Fm} {led : Led} {a b e : Expr} {pos : Pos} {rest : List Stmt} {P : Flow -> Shared -> Prop} {x : Str}
theorem Ev.free {v v1 : Value} {ca : Addr} (ok : c.Ok) (hk : c.env.kindOf x = some .free) (hd : (x == Str.ofString "__debug__") = false) (hd2 : (x == Str.ofString "__classdict__") = false) (hc : c.cl.lookup x = some ca) (h : CellV led ca v) (he : eV v = v1) : Ev c m led (.Name x pos) v1 := by
 subst he
 intro Q E s S k
 have S0 := S
 (refine q0g S fun m' led' F hm' N hl _ => ?_; (try clear S))
 (refine q08 (h.get hl) fun o v2 h1 h2 h3 => ?_)
 rw [ok.E] at hk ⊢
 exact nameX_F N hc h1 h2 (k _ _ h3 S0) ok.K hk hd hd2
theorem Ev.cellv {v v1 : Value} {ca : Addr} (ok : c.Ok) (hk : c.env.kindOf x = some .cell) (hd : (x == Str.ofString "__debug__") = false) (hc : c.cl.lookup x = some ca) (h : CellV led ca v) (he : eV v = v1) : Ev c m led (.Name x pos) v1 := by
 subst he
 intro Q E s S k
 have S0 := S
 (refine q0g S fun m' led' F hm' N hl _ => ?_; (try clear S))
 (refine q08 (h.get hl) fun o v2 h1 h2 h3 => ?_)
 rw [ok.E] at hk ⊢
 exact nameX_C N hc h1 h2 (k _ _ h3 S0) ok.K hk hd
theorem q1b {D : Addr} {o : Obj} : ∀ {l : Led} {i : Nat}, l[i]? = some (D, o) -> (l.map (·.1)).Nodup -> UpdF D o l (fun o2 => l.set i (D, o2))
 | [], _, h, _ => by simp at h
 | p :: l, 0, h, hn => by
  simp only [List.getElem?_cons_zero, Option.some.injEq] at h
  subst h
  rw [List.map_cons, List.nodup_cons] at hn
  exact .head fun q hq e => hn.1 (List.mem_map.mpr ⟨q, hq, e⟩)
 | p :: l, i + 1, h, hn => by
  rw [List.map_cons, List.nodup_cons] at hn
  simp only [List.getElem?_cons_succ] at h
  exact .tail (fun e => hn.1 (List.mem_map.mpr ⟨_, List.mem_of_getElem? h, e.symm⟩)) (q1b h hn.2)
theorem SS.storeC {s : Shared} {v : Value} {ca : Addr} {i : Nat} {o : Obj} {v0 : Option Value} (ok : c.Ok) (S : SS c m led s) (hk : c.env.kindOf x = some .cell) (hc : c.cl.lookup x = some ca) (hi : led[i]? = some (ca, o)) (ho : ∀ o', eO o' = o -> ∃ v0, o'.data = .cell v0) {Q : Unit -> Shared -> Prop} {E : Value -> Shared -> Prop}
  (h : ∀ o' s', (∃ v', o'.data = .cell (some v') /\ eV v' = eV v) -> SS c m (led.set i (ca, o')) s' -> Q () s') : wpAny c.M c.A (storeName c.env x v) Q E s := by
 (refine q00 S fun m' led' F hm' N hl hn hg => ?_; (try clear S))
 (refine E_ea (q03 hl hi) fun o1 h1 h2 => ?_)
 (refine E_e (ho o1 h2) fun w0 hw => ?_)
 rw [ok.E] at hk ⊢
 refine storeX_C F N hc (q1b h1 (by rw [q0e hl]; exact hn)) hw (fun h' o' F' N' hd => ?_) ok.K hk
 exact h (eO o') _ (qfg hd) (SS.upd hm' hl hn hg hi F' N' rfl)
theorem q5q {o o' : Obj} {v0 : Option Value} (h : eO o' = o) (hd : o.data = .cell v0) : ∃ v, o'.data = .cell v := by
 cases v0 with
 | some v => (refine E_ea (qap h hd) fun v2 h2 _ => ?_); exact ⟨_, h2⟩
 | none =>
  rw [<- h] at hd
  unfold eO at hd
  cases hc : tokC o'.cls <;> rw [hc] at hd
  ·exact ⟨_, hd⟩
  ·obtain ⟨c1, d1, dt, sl⟩ := o'
   cases dt <;> simp only [cond_true, eD, reduceCtorEq] at hd
   exact ⟨_, rfl⟩
theorem Bd.assignC {p' : Pos} {R : Value -> Led -> Prop} {ca : Addr} (ok : c.Ok) (he : EvG c m led e R) (hk : c.env.kindOf x = some .cell) (hc : c.cl.lookup x = some ca)
  (hr : ∀ v l, R v l -> ∃ i o v0, l[i]? = some (ca, o) /\ o.data = .cell v0 /\ ∀ o', (∃ v', o'.data = .cell (some v') /\ eV v' = v) -> Bd c m (l.set i (ca, o')) rest P) (hw : swapsWith e (some (Expr.Name x p')) pos.line c.env = pure false) : Bd c m led (.Assign [.Name x p'] e pos :: rest) P := by
 intro Q E s hE S k
 refine wpAny_execs_cons (wpAny_Assign_Name (he _ _ s S fun v' l s1 ev S1 => ?_) hw)
 (refine q1o (hr _ _ ev) fun i o v0 h1 h2 h3 => ?_)
 exact SS.storeC (v0 := v0) ok S1 hk hc h1 (fun o' e' => q5q e' h2) fun o' s2 hd S2 => h3 o' hd _ _ _ hE S2 k
theorem Cl.nest {f c' : Addr} {vs : List Value} {R : Value -> Led -> Prop} {name qual : Str} {params : Arguments} {body : List Stmt} {scope : Scope} {cl : List (Str × Addr)} {doc pm ctv : Value} {oc : Obj} {cvs : Array Value} {tq : Tok} {i j : Nat} (NS : List Str) (ok : c.Ok)
  (hf : led[i]? = some (f, fnMade name qual params body scope cl doc pm c' ctv)) (hc : led[j]? = some (c', oc)) (hcd : oc.data = .fields cvs) (hcq : cvs[1]? = some (.str qual tq)) (hroom : c.dp < recursionLimit)
  (hbind : ∀ s vs', vs'.length = vs.length -> BindsTo s (fnX name qual params body scope cl .none .none doc pm none (.ref c') ctv) ⟨vs', []⟩ (NS.zip vs'))
  (hloc : (NS.all fun n => scope.names.lookup n == some .local) = true)
  (hco : scope.isCoroutine = false) (hgen : scope.isGenerator = false) (hk : scope.kind = .function) (hcell : ∀ x ∈ scope.names, x.2 ≠ .cell)
  (h : ∀ L' g, (c.under qual scope L' f (.ref c') g cl).Ok -> (∀ p ∈ led, @LT.lt Nat _ p.1 L') -> Bd (c.under qual scope L' f (.ref c') g cl) (fun x => (NS.zip vs).reverse.lookup x) led body (Out (c.under qual scope L' f (.ref c') g cl) R)) : Cl c m led (.ref f) vs R := by
 intro vs' Q E s S hv k
 (refine q00 S fun m' led' F hm' N hl hn hg => ?_; (try clear S))
 (refine q08 (ok.B) fun A₀ base B C1 C2 => ?_)
 (refine q0y (ok.T) fun p loose mean mg mb T => ?_)
 (refine E_ea (q03 hl hf) fun fo f1 f2 => ?_)
 obtain rfl : fo = _ := qba (o' := fnMade name qual params body scope cl doc pm c' ctv) (f2.trans rfl) rfl
 (refine E_ea (q03 hl hc) fun oc' g1 g2 => ?_)
 obtain rfl : oc' = oc := q0z g2 (by rw [hcd]; rfl)
 have hrec := codeRec_news N (List.mem_of_getElem? g1) hcd hcq
 have hlen : vs'.length = vs.length := by rw [<- hv, List.length_map]
 have hloc' : ∀ y ∈ NS.zip vs', scope.names.lookup y.1 = some .local := fun y hy => beq_iff_eq.mp (List.all_eq_true.mp hloc y.1 (List.of_mem_zip hy).1)
 refine wpAny_call (Mine.callR (rest := []) (own := led') (env := c.denv) (outer := c.outer) (dV := .none) (kV := .none) (an := none) B F N (fun _ h => nomatch h) (fun _ h => nomatch h) T.nolimit rfl rfl ok.K (N _ (List.mem_of_getElem? f1)).1 rfl hrec hroom (hbind s vs' hlen) hloc' ?_ hcell hco hgen hk)
 intro g L' h₁ FG F' N' B' st hlt _
 have okc : (c.under qual scope L' f (.ref c') g cl).Ok := ⟨⟨⟨_, base, B', C1, C2⟩, ok.X.keeps st, ⟨p, loose, mean, mg, mb, T.keeps st⟩, hk, hk, rfl, rfl⟩, rfl⟩
 refine h L' g okc (fun p hp => ?_) _ _ _ PassesOwn.leaving ⟨_, led', F', fun x => ?_, N', hl, hn, hg⟩ fun fl s' ho' => ?_
 ·rw [<- hl] at hp
  (refine E_ea (List.mem_map.mp hp) fun q hq z1z => ?_; subst z1z)
  exact hlt q hq
 ·rw [qdp, hv]
 ·(refine q07 ho' fun m2 l2 z1z hR => ?_; (try clear ho'); obtain ⟨m3, l3, F3, hm3, N3, hl3, hn3, hg3⟩ := z1z)
  refine ⟨L', m3, l3, F3, N3, fun FF NN _ => ?_⟩
  exact k _ _ _ hR ⟨m', l3, FF, hm', NN, hl3, hn3, hg3⟩
theorem EvG.callF {f : Addr} {es : List Expr} {vs : List Value} {R : Value -> Led -> Prop} {i : Nat} {fd : FuncData} (hf : Ev c m led e (.ref f)) (hi : led[i]? = some (f, { cls := .type "function", data := .func fd })) (ha : EvA c m led (a :: es) vs) (hcl : Cl c m led (.ref f) vs R)
  (hc : eval (.Call e (a :: es) [] pos) c.env = (do callWith pos (<- eval e c.env) [] (backTo pos (starEach (a :: es) c.env)) (backToKw pos (keywordEach [] c.env)))) (hs : starEach (a :: es) c.env = (false, eval a c.env) :: starEach es c.env) (hs2 : ((backTo pos (starEach es c.env)).any fun x => x.fst) = false) : EvG c m led (.Call e (a :: es) [] pos) R := by
 intro Q E s S k
 have fnAt : ∀ s, SS c m led s -> FnAt f s.heap := fun s S => by
  (refine q0g S fun m' led' F hm' N hl _ => ?_; (try clear S))
  (refine E_ea (q03 hl hi) fun o' h1 h2 => ?_)
  obtain rfl : o' = _ := qba (o' := { cls := .type "function", data := .func fd }) (h2.trans rfl) rfl
  exact FnAt.of N (List.mem_of_getElem? h1)
 refine Call_ (hf _ _ s S fun vf s0 ef S0 => ?_) hc
 obtain rfl := q04 ef
 refine callWith_F (fnAt _ S0) ?_ hs hs2
 refine ha _ _ _ s0 S0 fun vs' s1 es' S1 => ⟨fnAt _ S1, ?_⟩
 rw [List.nil_append]
 exact hcl _ _ _ s1 S1 es' k
end
end
section
section
variable {c : Cx} {m : Fm} {led : Led} {a b e o : Expr} {pos : Pos} {rest : List Stmt} {P : Flow -> Shared -> Prop} {x y : Int}
theorem Tb.eq (ha : Ev c m led a (.int x 0)) (hb : Ev c m led b (.int y 0)) (hm : behindInMarks .Eq b = false) : Tb c m led (.Compare a [.Eq] [b] pos) (x == y) := Tb.cmp ha hb hm fun _ _ _ _ _ k => eq_int k
theorem Ev.shr (ha : Ev c m led a (.int x 0)) (hb : Ev c m led b (.int y 0)) (h : 0 <= y) : Ev c m led (.BinOp a .RShift b pos) (.int (x.fdiv (2 ^ y.toNat)) 0) := Ev.binop ha hb fun _ _ _ _ _ k => rshift_int h (k _ _ rfl)
theorem Ev.shl (ha : Ev c m led a (.int x 0)) (hb : Ev c m led b (.int y 0)) (h : 0 <= y) (h2 : (Builtin.Int.intBits x : Int) + y <= 2 ^ 27) : Ev c m led (.BinOp a .LShift b pos) (.int (x * 2 ^ y.toNat) 0) := Ev.binop ha hb fun _ _ _ _ _ k => lshift_int h h2 (k _ _ rfl)
theorem Ev.xor (ha : Ev c m led a (.int x 0)) (hb : Ev c m led b (.int y 0)) : Ev c m led (.BinOp a .BitXor b pos) (.int (Builtin.bitXor x y) 0) := Ev.binop ha hb fun _ _ _ _ _ k => xor_int (k _ _ rfl)
theorem Ev.to {v v' : Value} (h : Ev c m led e v) (hv : v = v') : Ev c m led e v' := hv ▸ h
theorem Bd.ret0 (h : ∀ s, SS c m led s -> P (.ret .none) s) : Bd c m led (.Return none pos :: rest) P := fun Q E s hE S k => wpAny_execs_cons (wpAny_Return_none (k _ _ (h _ S)))
theorem Bd.setI {D : Addr} {ns : List Int} {j : Nat} {i v : Int} {p' : Pos} (he : Ev c m led e (.int v 0)) (ho : Ev c m led o (.ref D)) (hi : Ev c m led a (.int i 0)) (hD : led[j]? = some (D, lsI ns)) (h0 : 0 <= i) (h1 : i < (ns.length : Int)) (hz : ns.length < 2 ^ 62)
  (hr : Bd c m (led.set j (D, lsI (ns.set i.toNat v))) rest P) (hw : swapsWith e (some (o.Subscript a p')) pos.line c.env = pure false) : Bd c m led (.Assign [.Subscript o a p'] e pos :: rest) P := by
 intro Q E s hE S k
 refine wpAny_execs_cons (wpAny_Assign_Subscript (he _ _ s S fun v1 s1 e1 S1 => ho _ _ s1 S1 fun v2 s2 e2 S2 => hi _ _ s2 S2 fun v3 s3 e3 S3 => ?_) hw)
 (refine E_e (q0a e1) fun t z1z => ?_; subst z1z)
 obtain rfl := q04 e2
 (refine E_e (q0a e3) fun u z1z => ?_; subst z1z)
 (refine q00 S3 fun m' led' F hm' N hl hn hg => ?_; (try clear S3))
 (refine E_ea (q03 hl hD) fun o' h2 h3 => ?_)
 (refine q07 (q0b h3) fun its n z1z h4 => ?_; subst z1z)
 refine ksa_set F N (q1x h2 (by rw [q0e hl]; exact hn)) (q0r h4) h0 h1 (by exact o386 h1 hz) fun h' F' N' hI _ _ => hr _ _ _ hE (SS.upd hm' hl hn hg hD F' N' (q13 (q2i hI))) k
theorem q6f {l : Led} {i j : Nat} {p q r : Addr × Obj} (h : l[i]? = some p) (h2 : l[j]? = some q) (hne : p ≠ q) : (l.set j r)[i]? = some p := by
 rw [List.getElem?_set_ne]
 ·exact h
 ·rintro rfl
  rw [h] at h2
  exact hne (Option.some.inj h2)
theorem qbe {l : Led} {j : Nat} {q r : Addr × Obj} (h2 : l[j]? = some q) : (l.set j r)[j]? = some r := by
 (refine E_e (List.getElem?_eq_some_iff.mp h2) fun hlt _ => ?_)
 exact List.getElem?_set_self hlt
theorem CellV.set {l : Led} {j : Nat} {D : Addr} {vs : List Value} {r : Addr × Obj} {ca : Addr} {v : Value} (h : CellV l ca v) (h2 : l[j]? = some (D, lsO vs)) : CellV (l.set j r) ca v := by
 (refine q1o h fun i o v' h1 h3 h4 => ?_; (try clear h))
 refine ⟨i, o, v', q6f h1 h2 ?_, h3, h4⟩
 rintro h
 rw [(Prod.mk.inj h).2] at h3
 cases h3
end
theorem ex1 {α : Type} {l : List α} (h : l.length = 1) : ∃ a, l = [a] := List.length_eq_one_iff.mp h
theorem ex2 {α : Type} {l : List α} (h : l.length = 2) : ∃ a b, l = [a, b] := by
 obtain _ | ⟨a, l⟩ := l
 ·exact absurd h (Nat.zero_ne_add_one _)
 ·(refine E_e (ex1 (Nat.succ.inj h)) fun b z1z => ?_; subst z1z)
  exact ⟨a, b, rfl⟩
theorem ex3 {α : Type} {l : List α} (h : l.length = 3) : ∃ a b c, l = [a, b, c] := by
 obtain _ | ⟨a, l⟩ := l
 ·exact absurd h (Nat.zero_ne_add_one _)
 ·(refine E_ee (ex2 (Nat.succ.inj h)) fun b c z1z => ?_; subst z1z)
  exact ⟨a, b, c, rfl⟩
theorem ex4 {α : Type} {l : List α} (h : l.length = 4) : ∃ a b c d, l = [a, b, c, d] := by
 obtain _ | ⟨a, l⟩ := l
 ·exact absurd h (Nat.zero_ne_add_one _)
 ·(refine q2n (ex3 (Nat.succ.inj h)) fun b c d z1z => ?_; subst z1z)
  exact ⟨a, b, c, d, rfl⟩
theorem room {n k j : Nat} (h : n + k < recursionLimit) (hj : j <= k) : n + j < recursionLimit := Nat.lt_of_le_of_lt (Nat.add_le_add_left hj n) h
end
section
theorem q86 (k : Str -> Option NameKind) (x : Str) : ∀ (l : List (Str × Value)) (M : Fm), (bindL k l M x).map eV = bindL k (l.map fun p => (p.1, eV p.2)) (fun y => (M y).map eV) x
 | [], M => rfl
 | (n, v) :: r, M => by
  rw [List.map_cons, bindL, bindL, q86 k x r]
  congr 1
  by_cases h : k n = some .local
  ·rw [if_pos h, if_pos h]
   funext y
   by_cases e : y = n
   ·rw [if_pos e, if_pos e]; rfl
   ·rw [if_neg e, if_neg e]
  ·rw [if_neg h, if_neg h]
theorem q8d (k : Str -> Option NameKind) (x : Str) : ∀ (l : List (Str × Value)) (M : Fm), (bindC k l M x).map eV = bindC k (l.map fun p => (p.1, eV p.2)) (fun y => (M y).map eV) x
 | [], M => rfl
 | (n, v) :: r, M => by
  rw [List.map_cons, bindC, bindC, q8d k x r]
  congr 1
  by_cases h : k n = some .local
  ·rw [if_pos h, if_pos h]
  ·rw [if_neg h, if_neg h]
   funext y
   by_cases e : y = n
   ·rw [if_pos e, if_pos e]; rfl
   ·rw [if_neg e, if_neg e]
theorem qb2 (NS : List Str) (vs : List Value) : (NS.zip vs).map (fun p => (p.1, eV p.2)) = NS.zip (vs.map eV) := by
 rw [List.zip_map_right]; rfl
noncomputable def q4p (cm : Fm) : List (Str × Addr) -> Led -> Prop
 | [], [] => True
 | (n, ca) :: l, (a, o) :: r => a = ca /\ (∃ v0, o.data = .cell v0 /\ v0.map eV = cm n) /\ q4p cm l r
 | _, _ => False
theorem q8s {cm : Fm} : ∀ {l : List (Str × Addr)} {cells : Led}, CellsAre cm l cells -> q4p (fun n => (cm n).map eV) l (cells.map eP)
 | _, _, .nil => trivial
 | _, _, .cons (n := n) (o := o) h r => by
  refine ⟨rfl, ?_, q8s r⟩
  show ∃ v0, (eO o).data = _ /\ _
  unfold eO
  cases tokC o.cls
  ·exact ⟨_, h, rfl⟩
  ·refine ⟨(cm n).map eV, by rw [cond_true]; show eD _ o.data = _; rw [h]; rfl, ?_⟩
   show Option.map eV (Option.map eV (cm n)) = Option.map eV (cm n)
   cases cm n with
   | none => rfl
   | some v => exact congrArg some (qfk v)
theorem q74 {cm : Fm} : ∀ {l : List (Str × Addr)} {cells : Led}, CellsAre cm l cells -> cells.map (·.1) = l.map (·.2)
 | _, _, .nil => rfl
 | _, _, .cons h r => by rw [List.map_cons, List.map_cons, q74 r]
section
variable {c : Cx} {m : Fm} {led : Led} {a b e : Expr} {pos : Pos} {rest : List Stmt} {P : Flow -> Shared -> Prop} {x : Str}
theorem Cl.dfnC {f : Addr} {vs : List Value} {R : Value -> Led -> Prop} {name qual : Str} {params : Arguments} {body : List Stmt} {scope : Scope} {dV kV doc pm cdv ct oc : Value} {an od : Option Addr} {osl : Array (Option Value)} (NS : List Str) (ok : c.Ok)
  (ho : (Mine.hd.heap_1 c.w.params).lookup f = some ⟨oc, od, .func (fnOf name qual params body scope dV kV doc pm an cdv ct), osl⟩) (hcd : codeIn (Mine.hd.heap_1 c.w.params) cdv qual = true) (hroom : c.dp < recursionLimit)
  (hbind : ∀ s vs', vs'.length = vs.length -> BindsTo s (fnOf name qual params body scope dV kV doc pm an cdv ct) ⟨vs', []⟩ (NS.zip vs'))
  (hkind : (NS.all fun n => scope.names.lookup n == some .local || scope.names.lookup n == some .cell) = true)
  (hnd : ((cellsFrom 0 scope.names []).map (·.1)).Nodup) (hca : ∀ L', ((cellsFrom (L' + 1) scope.names []).map (·.2)).Nodup /\ ∀ b ∈ (cellsFrom (L' + 1) scope.names []).map (·.2), @LT.lt Nat _ L' b)
  (hco : scope.isCoroutine = false) (hgen : scope.isGenerator = false) (hk : scope.kind = .function)
  (h : ∀ L' g cells, (c.under qual scope L' f cdv g (cellsFrom (L' + 1) scope.names [])).Ok -> (∀ p ∈ led, @LT.lt Nat _ p.1 L') -> q4p (bindC (fun y => scope.names.lookup y) (NS.zip vs) fun _ => none) (cellsFrom (L' + 1) scope.names []) cells →
   Bd (c.under qual scope L' f cdv g (cellsFrom (L' + 1) scope.names [])) (bindL (fun y => scope.names.lookup y) (NS.zip vs) fun _ => none) (cells ++ led) body (Out (c.under qual scope L' f cdv g (cellsFrom (L' + 1) scope.names [])) R)) : Cl c m led (.ref f) vs R := by
 intro vs' Q E s S hv k
 (refine q00 S fun m' led' F hm' N hl hn hg => ?_; (try clear S))
 (refine q08 (ok.B) fun A₀ base B C1 C2 => ?_)
 (refine q0y (ok.T) fun p loose mean mg mb T => ?_)
 have hlen : vs'.length = vs.length := by rw [<- hv, List.length_map]
 have hkind' : ((NS.zip vs').all fun y => scope.names.lookup y.1 == some .local || scope.names.lookup y.1 == some .cell) = true := List.all_eq_true.mpr fun y hy => List.all_eq_true.mp hkind y.1 (List.of_mem_zip hy).1
 refine wpAny_call (Mine.code_defCR (rest := []) (own := led') (env := c.denv) (outer := c.outer) B F ok.X N (fun _ h => nomatch h) (fun _ h => nomatch h) T rfl rfl ok.K ho hcd hroom (hbind s vs' hlen) hkind' hnd ?_ hco hgen hk)
 intro g L' h₁ tk cells FG F' N' Y B' X' T' hlt _
 have okc : (c.under qual scope L' f cdv g (cellsFrom (L' + 1) scope.names [])).Ok := ⟨⟨⟨_, base, B', C1, C2⟩, X', ⟨p, loose, mean, mg, mb, T'⟩, hk, hk, rfl, rfl⟩, rfl⟩
 have hlt' : ∀ p ∈ led, @LT.lt Nat _ p.1 L' := fun p hp => by
  rw [<- hl] at hp
  (refine E_ea (List.mem_map.mp hp) fun q hq z1z => ?_; subst z1z)
  exact hlt q hq
 have hce := q8s Y
 have hfun : (fun n => (bindC (fun y => scope.names.lookup y) (NS.zip vs') (fun _ => none) n).map eV) = bindC (fun y => scope.names.lookup y) (NS.zip vs) fun _ => none := by
  funext n
  rw [q8d, qb2, hv]; rfl
 have hce' : q4p (bindC (fun y => scope.names.lookup y) (NS.zip vs) fun _ => none) (cellsFrom (L' + 1) scope.names []) (cells.map eP) := by rw [<- hfun]; exact hce
 refine h L' g (cells.map eP) okc hlt' hce' _ _ _ PassesOwn.leaving ⟨_, cells ++ led', F', fun x => ?_, N', ?_, ?_, hg⟩ fun fl s' ho' => ?_
 ·show (bindL (fun y => scope.names.lookup y) _ _ x).map eV = _
  rw [q86, qb2, hv]; rfl
 ·rw [List.map_append, hl]
 ·rw [List.map_append, q59, q74 Y]
  (refine E_a (hca L') fun q1 q2 => ?_)
  refine List.nodup_append.mpr ⟨q1, hn, fun b hb b' hb' e => ?_⟩
  subst e
  (refine E_ea (List.mem_map.mp hb') fun p hp z1z => ?_; subst z1z)
  exact Nat.lt_asymm (q2 _ hb) (hlt' p hp)
 ·(refine q07 ho' fun m2 l2 z1z hR => ?_; (try clear ho'); obtain ⟨m3, l3, F3, hm3, N3, hl3, hn3, hg3⟩ := z1z)
  refine ⟨L', m3, l3, F3, N3, fun FF NN _ => ?_⟩
  exact k _ _ _ hR ⟨m', l3, FF, hm', NN, hl3, hn3, hg3⟩
theorem Bd.fdef0 {name : Str} {params : Arguments} {body : List Stmt} {scope : Scope} {i ic : Nat} {cc TP ca : Addr} {ps : Array Value} {clos : List (Str × Addr)} {o : Obj} {v0 : Option Value} (ok : c.Ok) (hd1 : params.defaults = []) (hd2 : params.kw_defaults = []) (hd3 : annTrees params none c.env = [])
  (hi : led[i]? = some (TP, tabObj ps)) (hcc : c.ccd = .ref cc) (hcode : ∀ base, CodeHd base 72 68 -> CodeHd base 65 61 -> CodeHd base cc TP) (htri : TriplesOk ps.toList) (hno : codeAmong pos ps.toList = none) (hcl : closureFor scope c.env = pure clos)
  (hk : c.env.kindOf name = some .cell) (hc : c.cl.lookup name = some ca) (hic : led[ic]? = some (ca, o)) (hoc : o.data = .cell v0)
  (hr : ∀ f c' oc cvs tq doc pm ctv o', oc.data = .fields cvs -> cvs[1]? = some (.str (qualnameIn c.env name name) tq) -> (∃ v', o'.data = .cell (some v') /\ eV v' = .ref f) →
   Bd c m (((f, fnMade name (qualnameIn c.env name name) params body scope clos doc pm c' ctv) :: (c', oc) :: led.set i (TP, tabObj (ps ++ #[rawInt pos.line, rawInt pos.col, .ref c']))).set (ic + 2) (ca, o')) rest P) :
  Bd c m led (.FunctionDef name params body [] none [] scope none name pos :: rest) P := by
 obtain ⟨w, dp, un, gd, cn, cs, L, fa, ccd, cl, outer, h₀, env, gp⟩ := c
 have hE0 := ok.E
 dsimp only [Cx.denv] at hE0
 subst hE0
 let c : Cx := { w := w, dp := dp, un := un, gd := gd, cn := cn, cs := cs, L := L, a := fa, ccd := ccd, cl := cl, outer := outer, h₀ := h₀, env := envX cn cs L fa ccd cl, gp := gp }
 intro Q E s hE S k
 refine wpAny_execs_cons (nestDef_K hd1 hd2 hd3 ?_)
 (refine q00 S fun m' led' F hm' N hl hn hg => ?_; (try clear S))
 (refine q08 (ok.B) fun A₀ base B C1 C2 => ?_)
 (refine q0y (ok.T) fun p loose mean mg mb T => ?_)
 (refine E_ea (q03 hl hi) fun to t1 t2 => ?_)
 obtain rfl : to = tabObj ps := q0z t2 rfl
 refine nest_K F N T ((hcode base C1 C2).keeps B.stays) hcc (q1b t1 (by rw [q0e hl]; exact hn)) htri hno hcl ?_
 intro f c' oc cvs tq ctv doc h' tk F' N' hod hoq hlt hcf
 have S' : SS c m ((f, fnMade name (qualnameIn c.env name name) params body scope clos doc ((mg (Str.ofString "__name__")).getD Value.none) c' ctv) :: (c', oc) :: led.set i (TP, tabObj (ps ++ #[rawInt pos.line, rawInt pos.col, .ref c']))) { s with heap := h', toks := tk } := by
  refine ⟨m', _, F', hm', N', ?_, ?_, hg⟩
  ·rw [List.map_cons, List.map_cons, q6d hl]
   congr 1
   congr 1
   show (c', eO oc) = (c', oc)
   congr 1
   unfold eO
   cases tokC oc.cls
   ·rfl
   ·rw [cond_true, hod]; show ({ oc with data := Data.fields cvs } : Obj) = oc; rw [<- hod]
  ·have hn1 : ((led.set i (TP, tabObj (ps ++ #[rawInt pos.line, rawInt pos.col, .ref c']))).map (·.1)).Nodup := by rw [q7y hi]; exact hn
   have hlt1 : ∀ b ∈ (led.set i (TP, tabObj (ps ++ #[rawInt pos.line, rawInt pos.col, .ref c']))).map (·.1), @LT.lt Nat _ b c' := by
    rw [q7y hi, <- q0e hl]
    intro b hb
    (refine E_ea (List.mem_map.mp hb) fun q hq z1z => ?_; subst z1z)
    exact hlt q hq
   rw [List.map_cons, List.map_cons]
   refine List.nodup_cons.mpr ⟨fun hm => ?_, List.nodup_cons.mpr ⟨fun hm => Nat.lt_irrefl _ (hlt1 _ hm), hn1⟩⟩
   rcases List.mem_cons.mp hm with e | hm
   ·exact absurd e (Nat.ne_of_gt hcf)
   ·exact Nat.lt_irrefl _ (Nat.lt_trans (hlt1 _ hm) hcf)
 have hic' : ((f, fnMade name (qualnameIn c.env name name) params body scope clos doc ((mg (Str.ofString "__name__")).getD Value.none) c' ctv) :: (c', oc) :: led.set i (TP, tabObj (ps ++ #[rawInt pos.line, rawInt pos.col, .ref c'])))[ic + 2]? = some (ca, o) :=
  q6f hic hi (fun h => by rw [(Prod.mk.inj h).2] at hoc; cases hoc)
 exact SS.storeC (v0 := v0) ok S' hk hc hic' (fun o' e' => q5q e' hoc) fun o' s2 hd S2 => hr _ _ _ _ _ _ _ _ _ hod hoq hd _ _ _ hE S2 k
theorem Bd.fdef1 {name : Str} {params : Arguments} {body : List Stmt} {scope : Scope} {i ic : Nat} {cc TP ca c' : Addr} {ps : Array Value} {clos : List (Str × Addr)} {o : Obj} {v0 : Option Value} (ok : c.Ok) (hd1 : params.defaults = []) (hd2 : params.kw_defaults = []) (hd3 : annTrees params none c.env = [])
  (hi : led[i]? = some (TP, tabObj ps)) (hcc : c.ccd = .ref cc) (hcode : ∀ base, CodeHd base 72 68 -> CodeHd base 65 61 -> CodeHd base cc TP) (htri : TriplesOk ps.toList) (hno : codeAmong pos ps.toList = some (.ref c')) (hcl : closureFor scope c.env = pure clos)
  (hk : c.env.kindOf name = some .cell) (hc : c.cl.lookup name = some ca) (hic : led[ic]? = some (ca, o)) (hoc : o.data = .cell v0)
  (hr : ∀ f doc pm ctv o', (∃ v', o'.data = .cell (some v') /\ eV v' = .ref f) →
   Bd c m (((f, fnMade name (qualnameIn c.env name name) params body scope clos doc pm c' ctv) :: led).set (ic + 1) (ca, o')) rest P) :
  Bd c m led (.FunctionDef name params body [] none [] scope none name pos :: rest) P := by
 obtain ⟨w, dp, un, gd, cn, cs, L, fa, ccd, cl, outer, h₀, env, gp⟩ := c
 have hE0 := ok.E
 dsimp only [Cx.denv] at hE0
 subst hE0
 let c : Cx := { w := w, dp := dp, un := un, gd := gd, cn := cn, cs := cs, L := L, a := fa, ccd := ccd, cl := cl, outer := outer, h₀ := h₀, env := envX cn cs L fa ccd cl, gp := gp }
 intro Q E s hE S k
 refine wpAny_execs_cons (nestDef_K hd1 hd2 hd3 ?_)
 (refine q00 S fun m' led' F hm' N hl hn hg => ?_; (try clear S))
 (refine q08 (ok.B) fun A₀ base B C1 C2 => ?_)
 (refine q0y (ok.T) fun p loose mean mg mb T => ?_)
 (refine E_ea (q03 hl hi) fun to t1 t2 => ?_)
 obtain rfl : to = tabObj ps := q0z t2 rfl
 refine nestHit_K F N T ((hcode base C1 C2).keeps B.stays) hcc (List.mem_of_getElem? t1) htri hno hcl ?_
 intro f ctv doc h' tk F' N' hlt
 have S' : SS c m ((f, fnMade name (qualnameIn c.env name name) params body scope clos doc ((mg (Str.ofString "__name__")).getD Value.none) c' ctv) :: led) { s with heap := h', toks := tk } :=
  ⟨m', _, F', hm', N', by rw [List.map_cons, hl]; rfl, q0d hl hn hlt, hg⟩
 exact SS.storeC (v0 := v0) (i := ic + 1) ok S' hk hc hic (fun o' e' => q5q e' hoc) fun o' s2 hd S2 => hr _ _ _ _ _ hd _ _ _ hE S2 k
end
end
section
section
variable {c : Cx} {m : Fm} {led : Led} {a b e : Expr} {pos : Pos} {rest : List Stmt} {P : Flow -> Shared -> Prop} {x : Int}
theorem Ev.bitlen {pl : Sem Bool} {ap : Pos} (ha : Ev c m led a (.int x 0)) (hc : eval (.Call (.Attribute a "bit_length" ap) [] [] pos) c.env = (do let ov <- eval a c.env; standAt ap.atName; let (f, first) <- holding [ov] (getMethod ov "bit_length" pl); callWith pos f first (backTo pos (starEach [] c.env)) [])) :
  Ev c m led (.Call (.Attribute a "bit_length" ap) [] [] pos) (.int (Builtin.Int.intBits x) 0) := by
 intro Q E s S k
 refine MethodCall_ (ha _ _ s S fun va s1 ea S1 => ?_) hc
 (refine E_e (q0a ea) fun t z1z => ?_; subst z1z)
 exact getMethod_int_bit_length (callWith_method0 (call_int_bit_length (k _ _ rfl S1)))
theorem SS.drop2 {s : Shared} {p q : Addr × Obj} (h : SS c m (p :: q :: led) s) : SS c m (p :: led) s :=
 h.sub (fun r hr => (List.mem_cons.mp hr).elim (fun e => e ▸ .head _) fun h => .tail _ (.tail _ h)) (h.nodup.sublist (((List.sublist_cons_self q led).cons_cons p).map _))
theorem EvG.repl {es : List Expr} {v k : Int} {pl : Pos} (ha : EvA c m led es [vI v]) (hb : ∀ l, Ev c m (l :: led) b (.int k 0)) (h0 : 0 <= k) (h1 : k < 1000) : EvG c m led (.BinOp (.List es pl) .Mult b pos) (NewO led (lsI (List.replicate k.toNat v))) := by
 intro Q E s S h
 refine wpAny_BinOp (EvG.list ha (by show 1 <= _; decide) _ _ s S fun va l s1 hv S1 => ?_)
 (refine E_ea hv fun D hD z1z => ?_; (try clear hv); subst z1z)
 obtain rfl := q04 hD
 refine hb _ _ _ s1 S1 fun vb s2 eb S2 => ?_
 (refine E_e (q0a eb) fun u z1z => ?_; subst z1z)
 (refine q00 S2 fun m' led' F hm' N hl hn hg => ?_; (try clear S2))
 (refine E_ea (q03 (i := 0) hl rfl) fun o' h2 h3 => ?_)
 (refine q07 (q0b h3) fun its n z1z h4 => ?_; subst z1z)
 have hI : IntsAre its [v] := q0r (ns := [v]) h4
 have hln : its.length = 1 := IntsAre.length hI
 refine KM.mul F N (News.isList N (List.mem_of_getElem? h2)) hI (by exact o341 h0) (by exact o348 h1) (by rw [hln]; exact o347 h1) fun D' h' F' N' l1 hI' _ _ _ _ _ => ?_
 refine h _ _ _ ⟨D', rfl, rfl⟩ (SS.drop2 (q := (D, lsO [vI v])) ⟨m', _, F', hm', N', ?_, q0d hl hn l1, hg⟩)
 rw [List.map_cons, hl]
 congr 1
 show (D', eO _) = _
 rw [q18 (q2i hI'), List.flatten_replicate_singleton]
theorem Tb.int (h : Ev c m led a (.int x 0)) (hw : PySem.isTrue a c.env (eval a c.env) = (do let v <- eval a c.env; standAt a.pos; holding [v] (truthy v))) : Tb c m led a (x != 0) := by
 intro Q E s S k
 refine isTrue_plain (h _ _ s S fun v s1 e S1 => ?_) hw
 (refine E_e (q0a e) fun t z1z => ?_; subst z1z)
 exact truthy_int (k _ S1)
end
theorem SS.pick {c : Cx} {m : Fm} {l l' : Led} {s : Shared} (l2 : Led) (h : SS c m l s) (h2 : l2.Sublist l) (h1 : l2.Perm l') : SS c m l' s :=
 (h.sub (fun _ hq => h2.subset hq) (h.nodup.sublist (h2.map _))).perm h1
theorem Tb.lst {c : Cx} {m : Fm} {led : Led} {a : Expr} {D : Addr} {i : Nat} {ns : List Int} (h : Ev c m led a (.ref D)) (hi : led[i]? = some (D, lsI ns)) (hz : ns.length < 2 ^ 62) (hw : PySem.isTrue a c.env (eval a c.env) = (do let v <- eval a c.env; standAt a.pos; holding [v] (truthy v))) : Tb c m led a (decide (0 < ns.length)) := by
 intro Q E s S k
 refine isTrue_plain (h _ _ s S fun v s1 e S1 => ?_) hw
 obtain rfl := q04 e
 have S2 := S1
 (refine q0g S1 fun m' led' F hm' N hl _ => ?_; (try clear S1))
 (refine E_ea (q03 hl hi) fun o' h2 h3 => ?_)
 (refine q07 (q0b h3) fun its n z1z h4 => ?_; subst z1z)
 exact truthy_ints_fit (News.isList N (List.mem_of_getElem? h2)) (q0r h4) hz (k _ S2)
noncomputable def TabL (tab : Addr) (q : Str) (lin col : Nat) (T : Led) : Prop := T = [(tab, tabObj #[])] ∨ ∃ c' oc, T = [(tab, tabObj (q5s lin col c')), (c', oc)] /\ qds q oc
theorem Bd.perm {c : Cx} {m : Fm} {l l' : Led} {ss : List Stmt} {P : Flow -> Shared -> Prop} (hp : l.Perm l') (h : Bd c m l' ss P) : Bd c m l ss P := fun Q E s hE S k => h Q E s hE (S.perm hp) k
theorem Bd.fdefT {c : Cx} {m : Fm} {rest : List Stmt} {P : Flow -> Shared -> Prop} {pos : Pos} {name q : Str} {params : Arguments} {body : List Stmt} {scope : Scope} {ic lin col : Nat} {cc TP ca : Addr} {clos : List (Str × Addr)} {o : Obj} {v0 : Option Value} {pre T post : Led} (ok : c.Ok) (hT : TabL TP q lin col T)
  (hd1 : params.defaults = []) (hd2 : params.kw_defaults = []) (hd3 : annTrees params none c.env = [])
  (hcc : c.ccd = .ref cc) (hcode : ∀ base, CodeHd base 72 68 -> CodeHd base 65 61 -> CodeHd base cc TP) (htri : ∀ c', TriplesOk (q5s lin col c').toList) (hno : codeAmong pos [] = none) (hhot : ∀ c', codeAmong pos (q5s lin col c').toList = some (.ref c')) (hcl : closureFor scope c.env = pure clos) (hpl : pos.line = lin /\ pos.col = col) (hq : qualnameIn c.env name name = q)
  (hk : c.env.kindOf name = some .cell) (hc : c.cl.lookup name = some ca) (hic : pre[ic]? = some (ca, o)) (hoc : o.data = .cell v0)
  (hr : ∀ f c' oc doc pm ctv o', qds q oc -> (∃ v', o'.data = .cell (some v') /\ eV v' = .ref f) →
   Bd c m ((f, fnMade name q params body scope clos doc pm c' ctv) :: (pre.set ic (ca, o') ++ ([(TP, tabObj (q5s lin col c')), (c', oc)] ++ post))) rest P) :
  Bd c m (pre ++ (T ++ post)) (.FunctionDef name params body [] none [] scope none name pos :: rest) P := by
 (refine E_e (List.getElem?_eq_some_iff.mp hic) fun hlt _ => ?_)
 have hic' : ∀ l : Led, (pre ++ l)[ic]? = some (ca, o) := fun l => by rw [List.getElem?_append_left hlt]; exact hic
 subst hq
 rcases hT with rfl | ⟨c', oc, rfl, hC⟩
 ·refine Bd.fdef0 (i := pre.length) (ic := ic) (TP := TP) (ps := #[]) ok hd1 hd2 hd3 q85 hcc hcode trivial hno hcl hk hc (hic' _) hoc fun f c' oc cvs tq doc pm ctv o' h1 h2 ho => ?_
  refine Bd.perm (List.Perm.cons _ ?_) (hr f c' oc doc pm ctv o' ⟨cvs, tq, h1, h2⟩ ho)
  show (((c', oc) :: (pre ++ ((TP, tabObj #[]) :: post)).set pre.length _).set (ic + 1) _).Perm _
  rw [qay, List.set_cons_succ, List.set_append_left _ _ hlt, hpl.1, hpl.2]
  show ((c', oc) :: (pre.set ic (ca, o') ++ ((TP, tabObj (q5s lin col c')) :: post))).Perm _
  have h := (List.perm_middle (a := (c', oc)) (l₁ := pre.set ic (ca, o') ++ [(TP, tabObj (q5s lin col c'))]) (l₂ := post)).symm
  rw [List.append_assoc, List.append_assoc] at h
  exact h
 ·refine Bd.fdef1 (i := pre.length) (ic := ic) (TP := TP) (ps := q5s lin col c') (c' := c') ok hd1 hd2 hd3 q85 hcc hcode (htri c') (hhot c') hcl hk hc (hic' _) hoc fun f doc pm ctv o' ho => ?_
  refine Bd.perm ?_ (hr f c' oc doc pm ctv o' hC ho)
  rw [List.set_cons_succ, List.set_append_left _ _ hlt]
end
section
section
variable {c : Cx} {m : Fm} {led : Led} {a b e : Expr} {pos : Pos} {rest : List Stmt} {P : Flow -> Shared -> Prop} {x : Str}
structure Itr (c : Cx) (It : Addr) (n : Nat) (val : Nat -> Value) (IT : Nat -> Obj -> Prop) (Inv : Led -> Prop) : Prop where
 fix : ∀ i o, IT i o -> fixD o.data = true
 nx : ∀ i m led s (Q : Option Value -> Shared -> Prop) (E : Value -> Shared -> Prop), i < n -> Inv led -> (∃ io, IT i io /\ SS c m ((It, io) :: led) s) -> (∀ v' s', eV v' = val i -> (∃ io, IT (i + 1) io /\ SS c m ((It, io) :: led) s') -> Q (some v') s') -> wpAny c.M c.A (pyNext (.ref It)) Q E s
 nd : ∀ m led s (Q : Option Value -> Shared -> Prop) (E : Value -> Shared -> Prop), Inv led -> (∃ io, IT n io /\ SS c m ((It, io) :: led) s) -> (∀ s', SS c m led s' -> Q none s') -> wpAny c.M c.A (pyNext (.ref It)) Q E s
 it : ∀ io m led s (Q E : Value -> Shared -> Prop), IT 0 io -> SS c m ((It, io) :: led) s -> Q (.ref It) s -> wpAny c.M c.A (pyIter (.ref It)) Q E s
theorem loop {n : Nat} {px : Pos} {body : List Stmt} {It : Addr} {val : Nat -> Value} {IT : Nat -> Obj -> Prop} {Inv : Led -> Prop} (H : Itr c It n val IT Inv) (I : Nat -> Fm -> Led -> Prop) (ok : c.Ok) (hk : c.env.kindOf x = some .local) (hInv : ∀ i m l, I i m l -> Inv l)
  (turn : ∀ i m1 led1 io, i < n -> IT (i + 1) io -> I i m1 led1 -> Bd c (updM m1 x (val i)) ((It, io) :: led1) body (fun f s' => (f = .next ∨ f = .cont) /\ ∃ m2 led2, I (i + 1) m2 led2 /\ SS c m2 ((It, io) :: led2) s'))
  (done : ∀ m1 led1, I n m1 led1 -> Bd c m1 led1 rest P) {Q : Flow -> Shared -> Prop} {E : Value -> Shared -> Prop} {s : Shared} (hE : PassesOwn c.M c.A c.env E) (k : ∀ f s', P f s' -> Q f s')
  (h0 : I 0 m led) (hS : ∃ io, IT 0 io /\ SS c m ((It, io) :: led) s) :
  codeAny c.M c.A (.forLoop (.Name x px) (.ref It) body [] c.env) (fun r s' => match r with | .ok f => (match f with | .next => wpAny c.M c.A (execs rest c.env) Q E s' | f => Q f s') | .error e => cameBackBy c.M c.A c.env E e s') s := by
 refine codeAny_forLoop_any (fun k s' => ∃ i m1 led1, I i m1 led1 /\ (∃ io, IT i io /\ SS c m1 ((It, io) :: led1) s') /\ i <= n /\ k = n + 1 - i) ?_ (n + 1) ⟨0, m, led, h0, hS, Nat.zero_le _, rfl⟩
 (intro j; intro s'; intro z1y; refine q09 z1y fun i m1 led1 hI hS1 hi z2z => ?_; (try clear z1y); subst z2z)
 by_cases hlt : i < n
 ·refine H.nx i m1 led1 s' _ _ hlt (hInv _ _ _ hI) hS1 fun v' s2 hv hS2 => ?_
  (refine E_ea hS2 fun io hio S2 => ?_; (try clear hS2))
  refine wpAny_of_eq (a := ()) (by rfl) ?_
  refine wpAny_assign_Name (SS.store ok S2 hv hk fun s3 S3 => ?_)
  refine wpAny_passesOwn hE (turn i m1 led1 io hlt hio hI _ _ s3 hE S3 fun f s4 h => ?_)
  (refine q1i h fun hf m2 led2 hI2 S4 => ?_; (try clear h))
  have fin : ∃ m, m < n + 1 - i /\ ∃ i m1 led1, I i m1 led1 /\ (∃ io, IT i io /\ SS c m1 ((It, io) :: led1) s4) /\ i <= n /\ m = n + 1 - i := ⟨n + 1 - (i + 1), by exact o157 hlt, i + 1, m2, led2, hI2, ⟨io, hio, S4⟩, hlt, rfl⟩
  rcases hf with rfl | rfl <;> exact fin
 ·have hin : i = n := by exact o150 hi hlt
  subst hin
  refine H.nd m1 led1 s' _ _ (hInv _ _ _ hI) hS1 fun s2 S2 => ?_
  exact wpAny_passesOwn hE (wpAny_execs_nil (done m1 led1 hI _ _ _ hE S2 k))
theorem SS.step {It : Addr} {io o' : Obj} {s : Shared} {h' : Heap} {tk : Nat} (S : SS c m ((It, io) :: led) s) (hk : ∀ b o, ¬ b ∈ [It] -> s.heap.get? b = some o -> h'.get? b = some o) (ho : h'.get? It = some o') (hd : fixD o'.data = true) : SS c m ((It, o') :: led) { s with heap := h', toks := tk } := by
 (refine q00 S fun m' led' F hm' N hl hn hg => ?_; (try clear S))
 cases led' with
 | nil => simp at hl
 | cons q led' =>
  rw [List.map_cons, List.cons.injEq] at hl
  (refine E_a hl fun h1 h2 => ?_; (try clear hl))
  have hq : q.1 = It := congrArg Prod.fst h1
  rw [List.map_cons, List.nodup_cons] at hn
  have hm := N q (.head _)
  have hne : ∀ b o, c.h₀.get? b = some o -> b ≠ It := fun b o e hb => by rw [hb, <- hq, hm.2.2] at e; cases e
  have hLI : c.L ≠ It := fun e => hm.2.1 (hq.trans e.symm)
  refine ⟨m', (It, o') :: led', ⟨F.ns.at' fun o e => hk _ o (by simpa using hLI) e, fun b o e => hk b o (by simpa using hne b o e) (F.keep b o e), F.above⟩, hm', fun p hp => ?_, ?_, ?_, hg⟩
  ·rcases List.mem_cons.mp hp with rfl | hp
   ·exact ⟨ho, fun e => hLI e.symm, by rw [<- hq]; exact hm.2.2⟩
   ·have hp' := N p (.tail _ hp)
    refine ⟨hk _ _ ?_ hp'.1, hp'.2⟩
    rw [List.mem_singleton]
    intro e
    refine hn.1 ?_
    rw [<- h2, q59]
    exact List.mem_map.mpr ⟨p, hp, e⟩
  ·rw [List.map_cons, h2]
   congr 1
   show (It, eO o') = _
   congr 1
   unfold eO
   cases tokC o'.cls
   ·rfl
   ·rw [cond_true]
    obtain ⟨c1, d1, dt, sl⟩ := o'
    cases dt <;> first | rfl | cases hd
  ·exact List.nodup_cons.mpr hn
theorem SS.past {It : Addr} {io : Obj} {s : Shared} {h' : Heap} {tk : Nat} (S : SS c m ((It, io) :: led) s) (hk : ∀ b o, ¬ b ∈ [It] -> s.heap.get? b = some o -> h'.get? b = some o) : SS c m led { s with heap := h', toks := tk } := by
 (refine q00 S fun m' led' F hm' N hl hn hg => ?_; (try clear S))
 cases led' with
 | nil => simp at hl
 | cons q led' =>
  rw [List.map_cons, List.cons.injEq] at hl
  (refine E_a hl fun h1 h2 => ?_; (try clear hl))
  have hq : q.1 = It := congrArg Prod.fst h1
  rw [List.map_cons, List.nodup_cons] at hn
  have hm := N q (.head _)
  have hne : ∀ b o, c.h₀.get? b = some o -> b ≠ It := fun b o e hb => by rw [hb, <- hq, hm.2.2] at e; cases e
  have hLI : c.L ≠ It := fun e => hm.2.1 (hq.trans e.symm)
  refine ⟨m', led', ⟨F.ns.at' fun o e => hk _ o (by simpa using hLI) e, fun b o e => hk b o (by simpa using hne b o e) (F.keep b o e), F.above⟩, hm', fun p hp => ?_, h2, hn.2, hg⟩
  have hp' := N p (.tail _ hp)
  refine ⟨hk _ _ ?_ hp'.1, hp'.2⟩
  rw [List.mem_singleton]
  intro e
  refine hn.1 ?_
  rw [<- h2, q59]
  exact List.mem_map.mpr ⟨p, hp, e⟩
theorem SS.head {It : Addr} {io : Obj} {s : Shared} (S : SS c m ((It, io) :: led) s) (hd : fixD io.data = true) : s.heap.get? It = some io := by
 (refine q00 S fun m' led' F hm' N hl hn hg => ?_; (try clear S))
 (refine E_ea (q03 (i := 0) hl rfl) fun o' h1 h2 => ?_)
 obtain rfl := q0z h2 hd
 exact (N _ (List.mem_of_getElem? h1)).1
theorem SS.list {D : Addr} {vs : List Value} {i : Nat} {s : Shared} (S : SS c m led s) (hi : led[i]? = some (D, lsO vs)) : ∃ its : List Value, s.heap.IsList D its.toArray /\ its.map eV = vs := by
 (refine q00 S fun m' led' F hm' N hl hn hg => ?_; (try clear S))
 (refine E_ea (q03 hl hi) fun o' h1 h2 => ?_)
 (refine q07 (q0b h2) fun its n z1z h4 => ?_; subst z1z)
 exact ⟨its, News.isList N (List.mem_of_getElem? h1), h4⟩
theorem SS.push {s : Shared} {o : Obj} (S : SS c m led s) (ho : eO o = o) (hf : o.isFreed = false) : SS c m ((s.heap.objs.size, o) :: led) { s with heap := s.heap.push o } := by
 (refine q00 S fun m' led' F hm' N hl hn hg => ?_; (try clear S))
 (refine E_aa (Mine.fresh_ne F N) fun i1 i2 i3 => ?_)
 refine ⟨m', (s.heap.objs.size, o) :: led', F.push _, hm', fun p hp => ?_, by rw [List.map_cons, hl]; show (_, eO o) :: _ = _; rw [ho], ?_, hg⟩
 ·rcases List.mem_cons.mp hp with rfl | hp
  ·exact ⟨Heap.get?_push_size _ hf, fun q => i2 q.symm, i1⟩
  ·exact ⟨Heap.get?_push_of_some _ (N p hp).1, (N p hp).2⟩
 ·rw [List.map_cons, List.nodup_cons]
  refine ⟨fun hm => ?_, hn⟩
  rw [<- q0e hl] at hm
  (refine E_ea (List.mem_map.mp hm) fun p hp e' => ?_)
  exact i3 p hp e'
noncomputable def HasL (D : Addr) (vs : List Value) (l : Led) : Prop := ∃ j : Nat, l[j]? = some (D, lsO vs)
theorem HasL.get {D It : Addr} {vs : List Value} {io : Obj} {s : Shared} (h : HasL D vs led) (S : SS c m ((It, io) :: led) s) : ∃ its : List Value, s.heap.IsList D its.toArray /\ its.map eV = vs /\ its.length = vs.length /\ D ≠ It := by
 (refine E_e h fun j hj => ?_; (try clear h))
 (refine E_ea (S.list (i := j + 1) hj) fun its hL hit => ?_)
 refine ⟨its, hL, hit, by rw [<- hit, List.length_map], fun h => ?_⟩
 have hn := S.nodup
 rw [List.map_cons, List.nodup_cons] at hn
 exact hn.1 (h ▸ List.mem_map.mpr ⟨_, List.mem_of_getElem? hj, rfl⟩)
noncomputable def ITl (D : Addr) (i : Nat) (io : Obj) : Prop := io.cls = .type "list_iterator" /\ io.data = .fields #[.ref D, .int i 0]
noncomputable def ITr (D : Addr) (n i : Nat) (io : Obj) : Prop := io.cls = .type "list_reverseiterator" /\ io.data = .fields #[.ref D, rawInt ((n : Int) - 1 - (i : Int))]
theorem q27 {It D : Addr} {vs : List Value} : Itr c It vs.length (fun i => vs.getD i .none) (ITl D) (HasL D vs) := by
 refine ⟨fun i o h => by rw [h.2]; rfl, ?_, ?_, ?_⟩
 ·intro i m1 l1 s2 Q2 E2 hi hI hS k2
  (refine E_ea hS fun io z1z S2 => ?_; (try clear hS); obtain ⟨g1, g2⟩ := z1z)
  (refine q3l (hI.get S2) fun its hL hit hln hne => ?_)
  have hge := S2.head (by rw [g2]; rfl)
  refine (Walks.list (prog := Challenge.rw_un0030_01.row.prog) (w := c.w) (A := c.A) rfl It D hne its.toArray).item i s2 Q2 E2 (by rw [List.size_toArray, hln]; exact hi) ⟨⟨io, hge, g1, g2⟩, hL⟩ fun v h' tk hv hst hkp => ?_
  (refine E_a hst fun z1z _ => ?_; (try clear hst); obtain ⟨io', g3, g4, g5⟩ := z1z)
  have hv' : its[i]? = some v := by simpa using hv
  refine k2 v _ ?_ ⟨io', ⟨g4, g5⟩, S2.step hkp g3 (by rw [g5]; rfl)⟩
  rw [<- hit, List.getD_eq_getElem?_getD, List.getElem?_map, hv']; rfl
 ·intro m1 l1 s2 Q2 E2 hI hS k2
  (refine E_ea hS fun io z1z S2 => ?_; (try clear hS); obtain ⟨g1, g2⟩ := z1z)
  (refine q3l (hI.get S2) fun its hL hit hln hne => ?_)
  have hge := S2.head (by rw [g2]; rfl)
  refine (Walks.list (prog := Challenge.rw_un0030_01.row.prog) (w := c.w) (A := c.A) rfl It D hne its.toArray).done s2 Q2 E2 ⟨⟨io, hge, g1, by rw [List.size_toArray, hln]; exact g2⟩, hL⟩ fun h' tk hkp => k2 _ (S2.past hkp)
 ·intro io m1 l1 s2 Q2 E2 hio S2 k2
  exact wpAny_pyIter_listiter ⟨io, S2.head (by rw [hio.2]; rfl), hio.1, hio.2⟩ k2
theorem qag {It D : Addr} {vs : List Value} : Itr c It vs.length (fun i => vs.reverse.getD i .none) (ITr D vs.length) (HasL D vs) := by
 refine ⟨fun i o h => by rw [h.2]; rfl, ?_, ?_, ?_⟩
 ·intro i m1 l1 s2 Q2 E2 hi hI hS k2
  (refine E_ea hS fun io z1z S2 => ?_; (try clear hS); obtain ⟨g1, g2⟩ := z1z)
  (refine q3l (hI.get S2) fun its hL hit hln hne => ?_)
  have hge := S2.head (by rw [g2]; rfl)
  have hsz : its.toArray.size = vs.length := by rw [List.size_toArray, hln]
  refine (Walks.listRev (prog := Challenge.rw_un0030_01.row.prog) (w := c.w) (A := c.A) rfl It D hne its.toArray).item i s2 Q2 E2 (by rw [hsz]; exact hi) ⟨by rw [hsz]; exact Nat.le_of_lt hi, ⟨io, hge, g1, by rw [hsz]; exact g2⟩, hL⟩ fun v h' tk hv hst hkp => ?_
  (refine E_aa hst fun _ z1z _ => ?_; (try clear hst); obtain ⟨io', g3, g4, g5⟩ := z1z)
  rw [hsz] at g5
  have hv' : its[its.length - 1 - i]? = some v := by simpa using hv
  refine k2 v _ ?_ ⟨io', ⟨g4, g5⟩, S2.step hkp g3 (by rw [g5]; rfl)⟩
  rw [List.getD_eq_getElem?_getD, List.getElem?_reverse hi, <- hit, List.length_map, List.getElem?_map, hv']; rfl
 ·intro m1 l1 s2 Q2 E2 hI hS k2
  (refine E_ea hS fun io z1z S2 => ?_; (try clear hS); obtain ⟨g1, g2⟩ := z1z)
  (refine q3l (hI.get S2) fun its hL hit hln hne => ?_)
  have hge := S2.head (by rw [g2]; rfl)
  have hsz : its.toArray.size = vs.length := by rw [List.size_toArray, hln]
  exact (Walks.listRev (prog := Challenge.rw_un0030_01.row.prog) (w := c.w) (A := c.A) rfl It D hne its.toArray).done s2 Q2 E2 ⟨Nat.le_refl _, ⟨io, hge, g1, by rw [hsz]; exact g2⟩, hL⟩ fun h' tk hkp => k2 _ (S2.past hkp)
 ·intro io m1 l1 s2 Q2 E2 hio S2 k2
  exact wpAny_pyIter_revIter ⟨io, S2.head (by rw [hio.2]; rfl), hio.1, hio.2⟩ k2
noncomputable def ItE (c : Cx) (m : Fm) (led : Led) (e : Expr) (W : Addr -> Obj -> Led -> Prop) : Prop :=
 ∀ (Q E E' : Value -> Shared -> Prop) s, SS c m led s -> (∀ It io l s', W It io l -> SS c m ((It, io) :: l) s' -> Q (.ref It) s') -> wpAny c.M c.A (eval e c.env) (fun v s1 => wpAny c.M c.A (pyIter v) Q E' s1) E s
theorem ItE.list {R : Value -> Led -> Prop} {W : Addr -> Obj -> Led -> Prop} (he : EvG c m led e R) (hR : ∀ v l, R v l -> ∃ D vs, v = .ref D /\ HasL D vs l /\ ∀ It io, ITl D 0 io -> W It io l) : ItE c m led e W := by
 intro Q E E' s S k
 refine he _ _ s S fun ve l s1 ee S1 => ?_
 (refine q08 (hR _ _ ee) fun D vs hv z1z hW => ?_; obtain ⟨j, hj⟩ := z1z)
 obtain rfl := q04 hv
 (refine E_ea (S1.list hj) fun its hL hit => ?_)
 exact wpAny_pyIter_list hL (k _ _ _ _ (hW _ _ ⟨rfl, rfl⟩) (S1.push rfl rfl))
theorem ItE.rev {R : Value -> Led -> Prop} {W : Addr -> Obj -> Led -> Prop} {f : Expr} {p2 : Pos} (hf : Ev c m led f (.type "reversed")) (he : EvG c m led e R) (hR : ∀ v l, R v l -> ∃ D vs, v = .ref D /\ HasL D vs l /\ ∀ It io, ITr D vs.length 0 io -> W It io l)
  (hc : eval (.Call f [e] [] p2) c.env = (do callWith p2 (<- eval f c.env) [] (backTo p2 (starEach [e] c.env)) (backToKw p2 (keywordEach [] c.env)))) (hs : starEach [e] c.env = (false, eval e c.env) :: starEach [] c.env) : ItE c m led (.Call f [e] [] p2) W := by
 intro Q E E' s S k
 refine Call_ (hf _ _ s S fun vf s0 ef S0 => ?_) hc
 obtain rfl := q44 ef
 refine PyProof.Rows.callWith_type1 (args_cons (he _ _ s0 S0 fun va l s1 ea S1 => args_nil ?_) hs) hs rfl
 (refine q08 (hR _ _ ea) fun D vs hv z1z hW => ?_; obtain ⟨j, hj⟩ := z1z)
 obtain rfl := q04 hv
 (refine E_ea (S1.list hj) fun its0 hL0 hit0 => ?_)
 have hlen0 : its0.length = vs.length := by rw [<- List.length_map (f := eV), hit0]
 (refine q00 S1 fun m' led' F hm' N hl hn hg => ?_; (try clear S1))
 refine krv_reversed F N hL0 fun It h' F' N' l1 => ?_
 have S2 : SS c m ((It, revObj D ((vs.length : Int) - 1)) :: l) { s1 with heap := h' } := ⟨m', _, F', hm', N', by rw [List.map_cons, hl, hlen0]; rfl, q0d hl hn l1, hg⟩
 refine wpAny_pyIter_revIter (s := { s1 with heap := h' }) ⟨_, S2.head rfl, rfl, rfl⟩ (k _ _ _ _ (hW _ _ ⟨rfl, ?_⟩) S2)
 show Data.fields _ = _
 rw [show ((vs.length : Int) - 1 - ((0 : Nat) : Int)) = (vs.length : Int) - 1 from Int.sub_zero _]
theorem Bd.forL {D : Addr} {vs : List Value} {body : List Stmt} {px : Pos} (I : Nat -> Fm -> Led -> Prop) (ok : c.Ok) (hk : c.env.kindOf x = some .local) (he : Ev c m led e (.ref D)) (hD : ∀ i m l, I i m l -> ∃ j : Nat, l[j]? = some (D, lsO vs)) (h0 : I 0 m led)
  (turn : ∀ i v m1 led1 It io, vs[i]? = some v -> fixD io.data = true -> I i m1 led1 -> Bd c (updM m1 x v) ((It, io) :: led1) body (fun f s' => (f = .next ∨ f = .cont) /\ ∃ m2 led2, I (i + 1) m2 led2 /\ SS c m2 ((It, io) :: led2) s'))
  (done : ∀ m1 led1, I vs.length m1 led1 -> Bd c m1 led1 rest P) (hfs : ∀ v : Value, foldedSetIterable e c.env v = pure v) : Bd c m led (.For (.Name x px) e body [] pos :: rest) P := by
 intro Q E s hE S k
 refine wpAny_execs_cons (wpAny_For (ItE.list (R := Same (.ref D) led) (W := fun _ io l => l = led /\ ITl D 0 io) he.g (fun v l h => ⟨D, vs, h.1, h.2 ▸ hD _ _ _ h0, fun _ _ hi => ⟨h.2, hi⟩⟩) _ _ _ s S fun It io l s' hW S' => ?_) hfs)
 (refine E_a hW fun z1z hio => ?_; (try clear hW); subst z1z)
 exact loop q27 I ok hk hD (fun i m1 l1 io hi hio hI => turn i _ m1 l1 _ io (by rw [List.getD_eq_getElem?_getD, List.getElem?_eq_getElem hi]; rfl) (by rw [hio.2]; rfl) hI) done hE k h0 ⟨io, hio, S'⟩
theorem Bd.forR {D : Addr} {vs : List Value} {body : List Stmt} {px p2 : Pos} {f : Expr} (I : Nat -> Fm -> Led -> Prop) (ok : c.Ok) (hk : c.env.kindOf x = some .local) (hf : Ev c m led f (.type "reversed")) (he : Ev c m led e (.ref D)) (hD : ∀ i m l, I i m l -> ∃ j : Nat, l[j]? = some (D, lsO vs)) (h0 : I 0 m led)
  (turn : ∀ i v m1 led1 It io, vs.reverse[i]? = some v -> fixD io.data = true -> I i m1 led1 -> Bd c (updM m1 x v) ((It, io) :: led1) body (fun f s' => (f = .next ∨ f = .cont) /\ ∃ m2 led2, I (i + 1) m2 led2 /\ SS c m2 ((It, io) :: led2) s'))
  (done : ∀ m1 led1, I vs.length m1 led1 -> Bd c m1 led1 rest P)
  (hc : eval (.Call f [e] [] p2) c.env = (do callWith p2 (<- eval f c.env) [] (backTo p2 (starEach [e] c.env)) (backToKw p2 (keywordEach [] c.env)))) (hs : starEach [e] c.env = (false, eval e c.env) :: starEach [] c.env)
  (hfs : ∀ v : Value, foldedSetIterable (.Call f [e] [] p2) c.env v = pure v) : Bd c m led (.For (.Name x px) (.Call f [e] [] p2) body [] pos :: rest) P := by
 intro Q E s hE S k
 refine wpAny_execs_cons (wpAny_For (ItE.rev (R := Same (.ref D) led) (W := fun _ io l => l = led /\ ITr D vs.length 0 io) hf he.g (fun v l h => ⟨D, vs, h.1, h.2 ▸ hD _ _ _ h0, fun _ _ hi => ⟨h.2, hi⟩⟩) hc hs _ _ _ s S fun It io l s' hW S' => ?_) hfs)
 (refine E_a hW fun z1z hio => ?_; (try clear hW); subst z1z)
 exact loop qag I ok hk hD (fun i m1 l1 io hi hio hI => turn i _ m1 l1 _ io (by rw [List.getD_eq_getElem?_getD, List.getElem?_eq_getElem (by rw [List.length_reverse]; exact hi)]; rfl) (by rw [hio.2]; rfl) hI) done hE k h0 ⟨io, hio, S'⟩
end
end
section
section
variable {c : Cx} {m : Fm} {led : Led} {a b e : Expr} {pos : Pos} {rest : List Stmt} {P : Flow -> Shared -> Prop} {x : Str}
theorem Ev.globalE {v v1 : Value} (ok : c.Ok) (hk : c.env.kindOf x = some .globalImplicit) (hd : (x == Str.ofString "__debug__") = false) (e : nsIn (Mine.hd.heap_1 c.w.params) mainGlobals x = some (some v)) (hve : eV v = v1) : Ev c m led (.Name x pos) v1 := by
 exact Ev.globalG ok.toOkG hk hd e hve
theorem Cl.perm {l l' : Led} {f : Value} {vs : List Value} {R : Value -> Led -> Prop} (hp : l.Perm l') (h : Cl c m l' f vs R) : Cl c m l f vs R := fun vs' Q E s S hv k => h vs' Q E s (S.perm hp) hv k
theorem Cl.mono {l : Led} {f : Value} {vs : List Value} {R R' : Value -> Led -> Prop} (h : Cl c m l f vs R) (hr : ∀ v l, R v l -> R' v l) : Cl c m l f vs R' := fun vs' Q E s S hv k => h vs' Q E s S hv fun v l s' r S' => k v l s' (hr _ _ r) S'
theorem Tb.le {x y : Int} (ha : Ev c m led a (.int x 0)) (hb : Ev c m led b (.int y 0)) (hm : behindInMarks .LtE b = false) : Tb c m led (.Compare a [.LtE] [b] pos) (decide (x <= y)) := Tb.cmp ha hb hm fun _ _ _ _ _ k => le_int k
theorem EvG.divmod {x y : Int} (hf : Ev c m led e (.builtin "divmod")) (ha : EvA c m led (a :: [b]) [vI x, vI y]) (hy : 0 < y) (hp : Builtin.divisionGoesByPylong x y = false)
  (hc : eval (.Call e [a, b] [] pos) c.env = (do callWith pos (<- eval e c.env) [] (backTo pos (starEach [a, b] c.env)) (backToKw pos (keywordEach [] c.env)))) (hs : starEach [a, b] c.env = (false, eval a c.env) :: starEach [b] c.env) (hs2 : ((backTo pos (starEach [b] c.env)).any fun x => x.fst) = false) :
  EvG c m led (.Call e [a, b] [] pos) (NewO led (tpO [vI (x / y), vI (x % y)])) := by
 intro Q E s S h
 refine Call_ (hf _ _ s S fun vf s0 ef S0 => ?_) hc
 obtain rfl := q0t ef
 refine PyProof.Rows.callWith_builtin1 (ha _ _ _ s0 S0 fun vs' s1 es' S1 => ?_) hs hs2
 rcases vs' with _ | ⟨v1, _ | ⟨v2, _ | ⟨v3, r⟩⟩⟩
 ·exact absurd (congrArg List.length es') (by simp)
 ·exact absurd (congrArg List.length es') (by simp)
 case cons.cons.cons => exact absurd (congrArg List.length es') (by simp)
 ·simp only [List.map_cons, List.map_nil, List.cons.injEq, and_true] at es'
  (refine E_e (q0a es'.1) fun t z1z => ?_; subst z1z)
  (refine E_e (q0a es'.2) fun u z1z => ?_; subst z1z)
  (refine q00 S1 fun m' led' F hm' N hl hn hg => ?_; (try clear S1))
  refine Mine.divmod_K F N (by exact Int.ne_of_gt hy) (.inl hp) fun D h' ta tb F' N' l1 => h _ _ _ ⟨D, rfl, rfl⟩ ⟨m', _, F', hm', N', ?_, q0d hl hn l1, hg⟩
  rw [List.map_cons, hl, Int.fdiv_eq_ediv_of_nonneg _ (by exact Int.le_of_lt hy), Int.fmod_eq_emod_of_nonneg _ (by exact Int.le_of_lt hy)]
  congr 1
  exact congrArg (Prod.mk D) (q1y (vs' := [.int (x / y) ta, .int (x % y) tb]) rfl)
theorem EvG.rev {pl : Sem Bool} {D : Addr} {vs : List Value} {i : Nat} {ap : Pos} (ha : Ev c m led a (.ref D)) (hi : led[i]? = some (D, lsO vs)) (hz : vs.length <= sizeLine)
  (hc : eval (.Call (.Attribute a "reverse" ap) [] [] pos) c.env = (do let ov <- eval a c.env; standAt ap.atName; let (f, first) <- holding [ov] (getMethod ov "reverse" pl); callWith pos f first (backTo pos (starEach [] c.env)) [])) :
  EvG c m led (.Call (.Attribute a "reverse" ap) [] [] pos) (fun _ l => l = led.set i (D, lsO vs.reverse)) := by
 intro Q E s S h
 refine MethodCall_ (ha _ _ s S fun va s1 ea S1 => ?_) hc
 obtain rfl := q04 ea
 (refine q00 S1 fun m' led' F hm' N hl hn hg => ?_; (try clear S1))
 (refine E_ea (q03 hl hi) fun o' h2 h3 => ?_)
 (refine q07 (q0b h3) fun its n z1z h4 => ?_; subst z1z)
 refine listMethod_K N (List.mem_of_getElem? h2) PySem.F.slot_list_reverse PySem.F.type_list_reverse ?_
 refine callWith_method0 ?_
 refine kl_reverse (l := its.reverse) F N (by rw [List.toList_toArray]) (q1x h2 (by rw [q0e hl]; exact hn)) (by rw [List.toList_toArray, <- List.length_map (f := eV), h4]; exact hz) fun h' F' N' => h _ _ _ rfl (SS.upd hm' hl hn hg hi F' N' (q13 (by rw [List.map_reverse, h4])))
theorem Bd.assignT {x1 x2 : Str} {p1 p2 p3 : Pos} {k : Nat} {R : Value -> Led -> Prop} (ok : c.Ok) (he : EvG c m led e R) (hk1 : c.env.kindOf x1 = some .local) (hk2 : c.env.kindOf x2 = some .local)
  (hr : ∀ v l, R v l -> ∃ (t : Addr) (i : Nat) (v1 v2 : Value), v = .ref t /\ l[i]? = some (t, tpO [v1, v2]) /\ Bd c (updM (updM m x1 v1) x2 v2) l rest P)
  (hw : swapsWithSole [Expr.Tuple [.Name x1 p1, .Name x2 p2] k p3] e pos.line c.env = pure false) (hw2 : swappedStores [Expr.Tuple [.Name x1 p1, .Name x2 p2] k p3] e c.env = pure none) : Bd c m led (.Assign [.Tuple [.Name x1 p1, .Name x2 p2] k p3] e pos :: rest) P := by
 intro Q E s hE S kk
 refine wpAny_execs_cons (Assign_Tuple (he _ _ s S fun v l s1 ev S1 => ?_) hw hw2)
 (refine qd0 (hr _ _ ev) fun t i v1 v2 hv hi hb => ?_)
 obtain rfl := q04 hv
 have S2 := S1
 (refine q00 S1 fun m' led' F hm' N hl hn hg => ?_; (try clear S1))
 (refine E_ea (q03 hl hi) fun o' h2 h3 => ?_)
 (refine q07 (q8q h3) fun its n z1z h4 => ?_; subst z1z)
 rcases its with _ | ⟨w1, _ | ⟨w2, _ | ⟨w3, r⟩⟩⟩
 ·exact absurd (congrArg List.length h4) (by simp)
 ·exact absurd (congrArg List.length h4) (by simp)
 case cons.cons.cons => exact absurd (congrArg List.length h4) (by simp)
 ·simp only [List.map_cons, List.map_nil, List.cons.injEq, and_true] at h4
  refine unpackN_ F N (News.isTup N (List.mem_of_getElem? h2)) rfl rfl rfl fun h' F' N' => ?_
  have S3 : SS c m l { s1 with heap := h' } := ⟨m', led', F', hm', N', hl, hn, hg⟩
  refine assignInOrder_cons (assign_Name (SS.store ok S3 h4.1 hk1 fun s4 S4 => assignInOrder_cons (assign_Name (SS.store ok S4 h4.2 hk2 fun s5 S5 => assignInOrder_nil (hb _ _ _ hE S5 kk)))))
end
end
section
section
variable {c : Cx} {m : Fm} {led : Led} {a b e : Expr} {pos : Pos} {rest : List Stmt} {P : Flow -> Shared -> Prop} {x : Int}
theorem Tb.inl {D : Addr} {i : Nat} {ns : List Int} (ha : Ev c m led a (.int x 0)) (hb : Ev c m led b (.ref D)) (hi : led[i]? = some (D, lsI ns)) (hm : behindInMarks .In b = false) : Tb c m led (.Compare a [.In] [b] pos) (decide (x ∈ ns)) := by
 intro Q E s S h
 refine wpAny_isTrue_Compare1 (ha _ _ s S fun va s1 ea S1 => hb _ _ s1 S1 fun vb s2 eb S2 => ?_) hm
 (refine E_e (q0a ea) fun t z1z => ?_; subst z1z)
 obtain rfl := q04 eb
 have S3 := S2
 (refine q0g S2 fun m' led' F hm' N hl _ => ?_; (try clear S2))
 (refine E_ea (q03 hl hi) fun o' h2 h3 => ?_)
 (refine q07 (q0b h3) fun its n z1z h4 => ?_; subst z1z)
 exact kf_in N (List.mem_of_getElem? h2) (kfi (q0r h4)) (qhb (q0r h4)) (wpAny_truthy_bool (h _ S3))
theorem EvG.addL {D : Addr} {i : Nat} {ns ms : List Int} {es : List Expr} {p2 : Pos} (ha : Ev c m led a (.ref D)) (hi : led[i]? = some (D, lsI ns)) (hb : EvA c m led es (ms.map vI)) (hz : ns.length + ms.length <= 1000) :
  EvG c m led (.BinOp a .Add (.List es p2) pos) (NewO led (lsI (ns ++ ms))) := by
 intro Q E s S h
 have hz2 : ns.length + ms.length <= sizeLine := Nat.le_trans hz (by decide)
 refine wpAny_BinOp (ha _ _ s S fun va s1 ea S1 => ?_)
 obtain rfl := q04 ea
 refine EvG.list hb (by rw [List.length_map]; exact Nat.le_trans (Nat.le_add_left _ _) hz2) _ _ s1 S1 fun vb l s2 hv S2 => ?_
 (refine E_ea hv fun D2 hD z1z => ?_; (try clear hv); subst z1z)
 obtain rfl := q04 hD
 (refine q00 S2 fun m' led' F hm' N hl hn hg => ?_; (try clear S2))
 (refine E_ea (q03 hl (q06 hi)) fun o1 h1 h2 => ?_)
 (refine q07 (q0b h2) fun vs k1 z1z h3 => ?_; subst z1z)
 (refine E_ea (q03 (i := 0) hl rfl) fun o2 g1 g2 => ?_)
 (refine q07 (q0b g2) fun ws k2 z1z g3 => ?_; subst z1z)
 refine kmk_add_ints F N (News.isList N (List.mem_of_getElem? h1)) (News.isList N (List.mem_of_getElem? g1)) (q0r h3) (q0r g3) (fun D' us h' F' N' l1 hI => ?_) hz2
 refine h _ _ _ ⟨D', rfl, rfl⟩ (SS.drop2 (q := (D2, lsI ms)) ⟨m', _, F', hm', N', ?_, q0d hl hn l1, hg⟩)
 rw [List.map_cons, hl]
 congr 1
 show (D', eO _) = _
 rw [q18 (q2i hI)]
theorem q5t {n : Nat} (h : n <= 1000) : n <= sizeLine := Nat.le_trans h (by decide)
theorem Bd.app {D : Addr} {i : Nat} {vs : List Value} {v : Value} {pl : Sem Bool} {ap p2 : Pos} (ha : Ev c m led a (.ref D)) (hb : Ev c m led b v) (hi : led[i]? = some (D, lsO vs)) (hz : vs.length <= 1000) (hr : Bd c m (led.set i (D, lsO (vs ++ [v]))) rest P)
  (hc : eval (.Call (.Attribute a "append" ap) [b] [] pos) c.env = (do let ov <- eval a c.env; standAt ap.atName; let (f, first) <- holding [ov] (getMethod ov "append" pl); callWith pos f first (backTo pos (starEach [b] c.env)) [])) (hs : starEach [b] c.env = (false, eval b c.env) :: starEach [] c.env) (hq : interactive c.env = false) :
  Bd c m led (.Expr (.Call (.Attribute a "append" ap) [b] [] pos) p2 :: rest) P :=
 Bd.expr (EvG.append (R' := Same .none (led.set i (D, lsO (vs ++ [v])))) ha hb.g (fun _ _ h => ⟨i, by rw [h.2]; exact hi, by rw [h.1, h.2]; exact ⟨rfl, rfl⟩⟩) ⟨i, hi⟩ (q5t hz) hc hs) (fun _ _ h => by rw [h.2]; exact hr) hq rfl
theorem Bd.appG {D : Addr} {i : Nat} {vs : List Value} {o : Obj} {pl : Sem Bool} {ap p2 : Pos} (ha : Ev c m led a (.ref D)) (hb : EvG c m led b (NewO led o)) (hi : led[i]? = some (D, lsO vs)) (hz : vs.length <= 1000) (hr : ∀ t, Bd c m ((t, o) :: led.set i (D, lsO (vs ++ [.ref t]))) rest P)
  (hc : eval (.Call (.Attribute a "append" ap) [b] [] pos) c.env = (do let ov <- eval a c.env; standAt ap.atName; let (f, first) <- holding [ov] (getMethod ov "append" pl); callWith pos f first (backTo pos (starEach [b] c.env)) [])) (hs : starEach [b] c.env = (false, eval b c.env) :: starEach [] c.env) (hq : interactive c.env = false) :
  Bd c m led (.Expr (.Call (.Attribute a "append" ap) [b] [] pos) p2 :: rest) P :=
 Bd.expr (EvG.append (R' := fun _ l => ∃ t, l = (t, o) :: led.set i (D, lsO (vs ++ [.ref t]))) ha hb (fun _ _ ⟨t, h1, h2⟩ => ⟨i + 1, by rw [h2]; exact hi, t, by rw [h1, h2]; rfl⟩) ⟨i, hi⟩ (q5t hz) hc hs) (fun _ _ ⟨t, h⟩ => by rw [h]; exact hr t) hq rfl
theorem Bd.pick {l l' : Led} {ss : List Stmt} (l2 : Led) (h2 : l2.Sublist l) (h1 : l2.Perm l') (h : Bd c m l' ss P) : Bd c m l ss P := fun Q E s hE S k => h Q E s hE (S.pick l2 h2 h1) k
end
theorem q1v (xs T1 T2 r : Led) : (xs ++ (T1 ++ (T2 ++ r))).Perm (T1 ++ (T2 ++ (xs ++ r))) := by
 have h := List.perm_append_comm_assoc xs (T1 ++ T2) r
 rw [List.append_assoc, List.append_assoc] at h
 exact h
theorem q57 (a b c : Addr × Obj) (T1 T2 r : Led) : (a :: b :: c :: (T1 ++ (T2 ++ r))).Perm (T1 ++ (T2 ++ (a :: b :: c :: r))) := q1v [a, b, c] T1 T2 r
theorem q3y (ns : List Int) (x : Int) : lsI (ns ++ [x]) = lsO (ns.map vI ++ [vI x]) := by show lsO _ = _; rw [List.map_append]; rfl
noncomputable def All2 {α β : Type} (R : α -> β -> Prop) : List α -> List β -> Prop
 | [], [] => True
 | a :: l, b :: r => R a b /\ All2 R l r
 | _, _ => False
theorem All2.mono {α β : Type} {R R' : α -> β -> Prop} (h : ∀ a b, R a b -> R' a b) : ∀ {l : List α} {r : List β}, All2 R l r -> All2 R' l r
 | [], [], _ => trivial
 | [], _ :: _, x => x.elim
 | _ :: _, [], x => x.elim
 | _ :: _, _ :: _, x => ⟨h _ _ x.1, All2.mono h x.2⟩
theorem All2.snoc {α β : Type} {R : α -> β -> Prop} {a : α} {b : β} (h : R a b) : ∀ {l : List α} {r : List β}, All2 R l r -> All2 R (l ++ [a]) (r ++ [b])
 | [], [], _ => ⟨h, trivial⟩
 | [], _ :: _, x => x.elim
 | _ :: _, [], x => x.elim
 | _ :: _, _ :: _, x => ⟨x.1, All2.snoc h x.2⟩
theorem All2.len {α β : Type} {R : α -> β -> Prop} : ∀ {l : List α} {r : List β}, All2 R l r -> l.length = r.length
 | [], [], _ => rfl
 | [], _ :: _, x => x.elim
 | _ :: _, [], x => x.elim
 | _ :: _, _ :: _, x => congrArg (· + 1) (All2.len x.2)
noncomputable def RowE (l : Led) (v : Value) (r : List Int) : Prop := ∃ a, v = .ref a /\ (a, lsI r) ∈ l
theorem RowE.mono {l l' : Led} (h : ∀ p ∈ l, p ∈ l') : ∀ v r, RowE l v r -> RowE l' v r := fun _ _ ⟨a, h1, h2⟩ => ⟨a, h1, h _ h2⟩
end
section
noncomputable def NsO (o : Obj) (mm : Fm) : Prop := ∃ es ep, ∃ m' : Fm, o.data = .dict es ep /\ StrKeys es /\ (∀ x, nsFind es x = m' x) /\ ∀ x, (m' x).map eV = mm x
theorem NsO.of {h : Heap} {a : Addr} {m' mm : Fm} (hn : h.Ns a m') (hm : ∀ x, (m' x).map eV = mm x) : ∃ o, h.get? a = some o /\ NsO o mm := by
 (refine q09 hn fun o es ep h1 h2 h3 h4 => ?_; (try clear hn))
 exact ⟨o, h1, es, ep, m', h2, h3, h4, hm⟩
theorem NsO.ns {h : Heap} {a : Addr} {o : Obj} {mm : Fm} (hn : NsO o mm) (ho : h.get? a = some o) : ∃ m', h.Ns a m' /\ ∀ x, (m' x).map eV = mm x := by
 (refine q09 hn fun es ep m' h2 h3 h4 hm => ?_; (try clear hn))
 exact ⟨m', ⟨o, es, ep, ho, h2, h3, h4⟩, hm⟩
theorem NsO.fix {o : Obj} {mm : Fm} (hn : NsO o mm) : fixD o.data = true := by
 (refine q2u hn fun es ep m' h2 _ => ?_; (try clear hn))
 rw [h2]; rfl
noncomputable abbrev Cx.comp (c : Cx) (scope : Scope) (cl : List (Str × Addr)) (C : Addr) : Cx := { c with env := compEnvC scope cl C c.env }
theorem Cx.OkG.comp {c : Cx} (ok : c.OkG) {scope : Scope} {cl : List (Str × Addr)} {C : Addr} (hk : scope.kind = .function) : (c.comp scope cl C).OkG :=
 ⟨ok.B, ok.X, ok.T, ok.K, hk, ok.G.2.1, ok.G.2.2⟩
section
variable {c : Cx} {m : Fm} {led : Led} {a b e : Expr} {pos : Pos} {rest : List Stmt} {P : Flow -> Shared -> Prop} {x : Str}
theorem SS.obj {s : Shared} {i : Nat} {a : Addr} {o : Obj} (S : SS c m led s) (hi : led[i]? = some (a, o)) (hd : fixD o.data = true) : s.heap.get? a = some o := by
 (refine q00 S fun m' led' F hm' N hl hn hg => ?_; (try clear S))
 (refine E_ea (q03 hl hi) fun o' h1 h2 => ?_)
 obtain rfl := q0z h2 hd
 exact (N _ (List.mem_of_getElem? h1)).1
theorem Ev.nameC {v : Value} {C : Addr} {i : Nat} {o : Obj} {mm : Fm} (ok : c.OkG) (hk : c.env.kindOf x = some .local) (hd : (x == Str.ofString "__debug__") = false) (hC : c.env.locals = C) (hi : led[i]? = some (C, o)) (hn : NsO o mm) (hm : mm x = some v) : Ev c m led (.Name x pos) v := by
 subst hC
 intro Q E s S h
 (refine E_ea (hn.ns (S.obj hi hn.fix)) fun m' h1 h2 => ?_)
 have e := h2 x
 rw [hm] at e
 (refine E_ea (Option.map_eq_some_iff.mp e) fun v' e1 e2 => ?_)
 exact wpAny_Name (wpAny_loadName_local ok.G.1 hk h1 e1 (h v' s e2 S)) hd
theorem Ev.cellG {v v1 : Value} {ca : Addr} (ok : c.OkG) (hk : c.env.kindOf x = some .cell) (hd : (x == Str.ofString "__debug__") = false) (hc : c.env.cells.lookup x = some ca) (h : CellV led ca v) (he : eV v = v1) : Ev c m led (.Name x pos) v1 := by
 subst he
 intro Q E s S k
 have S0 := S
 (refine q0g S fun m' led' F hm' N hl _ => ?_; (try clear S))
 (refine q08 (h.get hl) fun o v2 h1 h2 h3 => ?_)
 exact wpAny_Name (wpAny_loadName_cell ok.G.1 hk hc ⟨o, N.get h1, h2⟩ (k _ _ h3 S0)) hd
theorem SS.storeH {s : Shared} {C : Addr} {o : Obj} {mm : Fm} {v v' : Value} (ok : c.OkG) (S : SS c m ((C, o) :: led) s) (hC : c.env.locals = C) (hn : NsO o mm) (hv : eV v' = v) (hk : c.env.kindOf x = some .local) {Q : Unit -> Shared -> Prop} {E : Value -> Shared -> Prop} (h : ∀ o' s', NsO o' (updM mm x v) -> SS c m ((C, o') :: led) s' -> Q () s') : wpAny c.M c.A (storeName c.env x v') Q E s := by
 subst hC
 (refine E_ea (hn.ns (S.head hn.fix)) fun m' h1 h2 => ?_)
 refine wpAny_storeName_local hk h1 (fun h' hn' hs => ?_) (by rw [ok.G.1]; rfl)
 (refine E_ea (NsO.of (mm := updM mm x v) hn' fun y => by
  unfold updM
  by_cases q : y = x
  ·rw [if_pos q, if_pos q, Option.map_some, hv]
  ·rw [if_neg q, if_neg q]; exact h2 y) fun o' g1 g2 => ?_)
 exact h o' _ g2 (S.step (fun b ob hb e => hs.extBut b ob (fun q => hb (by rw [q]; exact .head _)) e) g1 g2.fix)
theorem SS.appendL {s : Shared} {D : Addr} {i : Nat} {ys : List Value} {v : Value} (S : SS c m led s) (hi : led[i]? = some (D, lsO ys)) (hz : ys.length <= 1000) {Q E : Value -> Shared -> Prop} (h : ∀ s', SS c m (led.set i (D, lsO (ys ++ [eV v]))) s' -> Q .none s') : wpAny c.M c.A (call (.builtin "list.append") [.ref D, v]) Q E s := by
 (refine q00 S fun m' led' F hm' N hl hnd hg => ?_; (try clear S))
 (refine E_ea (q03 hl hi) fun o' h2 h3 => ?_)
 (refine q07 (q0b h3) fun its n5 z1z h4 => ?_; subst z1z)
 refine append_K F N (q1x h2 (by rw [q0e hl]; exact hnd)) (fun h' F' N' => h _ (SS.upd hm' hl hnd hg hi F' N' ?_)) ?_
 ·rw [List.push_toArray]
  exact q13 (by rw [List.map_append, h4]; rfl)
 ·rw [List.size_toArray, <- List.length_map (f := eV), h4]; exact q5t hz
theorem SS.compNew {s : Shared} {It : Addr} {io : Obj} {scope : Scope} {cl : List (Str × Addr)} (S : SS c m ((It, io) :: led) s) (hcell : ∀ y ∈ scope.names, y.2 ≠ .cell) (hkind : scope.kind = .function) {Q : Value -> Env -> Shared -> Prop} {E : Value -> Shared -> Prop}
  (h : ∀ C D oC s', NsO oC (fun _ => none) -> SS c m ((It, io) :: (C, oC) :: (D, lsO []) :: led) s' -> Q (.ref D) (newEnv scope C c.env.globals cl c.env.qual none .none (some c.env) builtinsNs) s') :
  wpAny c.M c.A (newList []) (fun acc s₃ => wpAny c.M c.A (newFunctionEnv scope c.env.globals cl [] c.env.qual none .none (some c.env)) (fun cenv s₄ => Q acc cenv s₄) E s₃) E s := by
 (refine q00 S fun m1 led1 F1 hm1 N1 hl1 hn1 hg1 => ?_; (try clear S))
 refine newList_K (vs := []) F1 N1 (fun D h2 F2 N2 l2 => ?_) (Nat.zero_le _)
 have S2 : SS c m ((D, lsO []) :: (It, io) :: led) { s with heap := h2 } := ⟨m1, _, F2, hm1, N2, by rw [List.map_cons, hl1, eP, q18 (vs := []) rfl], q0d hl1 hn1 l2, hg1⟩
 refine wpAny_newFunctionEnv hcell (by intro y hy; simp at hy) (fun h3 hns3 hsb3 => ?_) hkind
 have S3 := S2.push (o := { cls := .type "dict", data := .dict #[] }) rfl rfl
 (refine E_ea (NsO.of (mm := fun _ => none) hns3 fun y => rfl) fun oC g1 g2 => ?_)
 exact h _ _ oC _ g2 ((S3.step (h' := h3) (fun b ob hb e => hsb3.extBut b ob (fun q => hb (by rw [q]; exact .head _)) e) g1 g2.fix).perm (List.perm_append_comm_assoc [_, _] [_] led))
theorem SS.compEnd {s : Shared} {C D : Addr} {oC : Obj} {mm : Fm} {ys : List Value} {R : Value -> Led -> Prop} {Q E : Value -> Shared -> Prop} (S : SS c m ((C, oC) :: (D, lsO ys) :: led) s) (hN : NsO oC mm) (hR : R (.ref D) ((D, lsO ys) :: led)) (k : ∀ v' led' s', R (eV v') led' -> SS c m led' s' -> Q v' s') : compPost c.M c.A E none Q (.ref D) C (.ok .next) s := by
 (refine E_ea (hN.ns (S.head hN.fix)) fun m2 hns _ => ?_)
 exact ⟨m2, hns, fun h' hs' => k _ _ _ hR (S.past (s := s) (tk := s.toks) fun b ob hb e => hs'.extBut b ob (fun q => hb (by rw [q]; exact .head _)) e)⟩
theorem EvG.comp1 {elt iter : Expr} {px : Pos} {scope : Scope} {cl : List (Str × Addr)} {W : Addr -> Obj -> Led -> Prop} {R : Value -> Led -> Prop} (ok : c.OkG)
  (hclos : closureFor scope c.env = pure cl) (hcell : ∀ y ∈ scope.names, y.2 ≠ .cell) (hkind : scope.kind = .function) (hnames : ∀ y ∈ scope.names, y.2 = .local -> scope.names.lookup y.1 = some .local) (hx : scope.names.lookup x = some .local)
  (hs : ∀ v, foldedSetIterable iter c.env v = pure v) (hit : ItE c m led iter W)
  (hw : ∀ It io l, W It io l -> ∃ n val IT Inv, ∃ J : Nat -> List Value -> Led -> Prop, n <= 1000 /\ IT 0 io /\ Itr c It n val IT Inv /\ (∀ p l, Inv l -> Inv (p :: l)) /\ J 0 [] l /\ (∀ i ys l, J i ys l -> Inv l) /\
   (∀ i ys l C D oC io mm, (c.comp scope cl C).OkG -> i < n -> ys.length = i -> IT (i + 1) io -> NsO oC mm -> mm x = some (val i) -> J i ys l -> EvG (c.comp scope cl C) m ((It, io) :: (C, oC) :: (D, lsO ys) :: l) elt (fun v l2 => ∃ l3, l2.Perm ((It, io) :: (C, oC) :: (D, lsO ys) :: l3) /\ J (i + 1) (ys ++ [v]) l3)) /\
   (∀ ys l D, ys.length = n -> J n ys l -> R (.ref D) ((D, lsO ys) :: l))) :
  EvG c m led (.ListComp elt [⟨.Name x px, iter, [], 0⟩] scope pos) R := by
 intro Q E s S k
 rw [eval_ListComp]
 refine wpAny_comprehension_free rfl hs hclos hkind hnames ?_
 refine hit _ _ _ s S fun It io l s1 hW S1 => ?_
 (refine q2g (hw _ _ _ hW) fun n val IT Inv J hn hIT H hmono hJ0 hJI turn done => ?_)
 refine SS.compNew (Q := fun acc cenv s₄ => codeAny c.M c.A (.compStart (.ListComp elt [⟨.Name x px, iter, [], 0⟩] scope pos) 0 (.ref It) acc { cenv with scope := relabel scope c.env }) (compPost c.M c.A E none Q acc cenv.locals) s₄) S1 hcell hkind fun C D oC s4 g2 S4 => ?_
 have go : codeAny c.M c.A (.compLoop (.ListComp elt [⟨.Name x px, iter, [], 0⟩] scope pos) 0 (.ref It) (.ref D) (compEnvC scope cl C c.env)) (compPost c.M c.A E none Q (.ref D) C) s4 := by
  refine codeAny_compLoop_list (fun k s' => ∃ i ys l' oC, ∃ mm : Fm, ∃ io, NsO oC mm /\ IT i io /\ J i ys l' /\ ys.length = i /\ i <= n /\ SS c m ((It, io) :: (C, oC) :: (D, lsO ys) :: l') s' /\ k = n + 1 - i) ?_ (n + 1)
   ⟨0, [], l, oC, _, io, g2, hIT, hJ0, rfl, Nat.zero_le _, S4, rfl⟩
  (intro k'; intro s'; intro z1y; refine q2f z1y fun i ys l' oC mm io hN hI hJ hyl hi S z2z => ?_; (try clear z1y); subst z2z)
  by_cases hlt : i < n
  ·refine H.nx i m _ s' _ _ hlt (hmono _ _ (hmono _ _ (hJI _ _ _ hJ))) ⟨io, hI, S⟩ fun v' s2 hv hS2 => ?_
   (refine E_ea hS2 fun io2 hI2 S2 => ?_; (try clear hS2))
   refine wpAny_assign_Name (SS.storeH (c := c.comp scope cl C) (ok.comp hkind) (S2.perm (List.Perm.swap _ _ _)) rfl hN hv (lookup_relabel_local hx) fun oC' s3 hN' S3 => ?_)
   refine turn i ys l' C D oC' io2 _ (ok.comp hkind) hlt hyl hI2 hN' (by unfold updM; rw [if_pos rfl]) hJ _ _ s3 (S3.perm (List.Perm.swap _ _ _)) fun y l2 s4 hy S4 => ?_
   (refine E_ea hy fun l3 hp hJ3 => ?_; (try clear hy))
   exact (S4.perm hp).appendL (i := 2) rfl (hyl ▸ Nat.le_trans hi hn) fun s5 S5 => ⟨n + 1 - (i + 1), Nat.sub_lt_sub_left (Nat.lt_succ_of_lt hlt) (Nat.lt_succ_self i), i + 1, ys ++ [eV y], l3, oC', _, io2, hN', hI2, hJ3, by rw [List.length_append, hyl]; rfl, hlt, S5, rfl⟩
  ·obtain rfl : i = n := Nat.le_antisymm hi (Nat.le_of_not_lt hlt)
   refine H.nd m _ s' _ _ (hmono _ _ (hmono _ _ (hJI _ _ _ hJ))) ⟨io, hI, S⟩ fun s2 S2 => ?_
   exact S2.compEnd hN (done ys l' D hyl hJ) k
 exact codeAny_compStart_list go (H.it io m _ _ _ _ hIT S4 go)
end
end
section
noncomputable def EvP (c : Cx) (m : Fm) (led : Led) : Option Expr -> Option Int -> Prop
 | none, none => True
 | some e, some k => Ev c m led e (vI k)
 | _, _ => False
section
variable {c : Cx} {m : Fm} {led : Led} {a b e : Expr} {pos : Pos} {rest : List Stmt} {P : Flow -> Shared -> Prop} {x : Str}
theorem EvP.run {lw : Option Expr} {lo : Option Int} (h : EvP c m led lw lo) {Q E : Value -> Shared -> Prop} {s : Shared} (S : SS c m led s) (k : ∀ v s', IsPart v lo -> SS c m led s' -> Q v s') : wpAny c.M c.A (evalPart lw c.env) Q E s := by
 cases lw with
 | none =>
  cases lo with
  | none => exact wpAny_pure (k _ _ .none S)
  | some _ => exact h.elim
 | some e =>
  cases lo with
  | none => exact h.elim
  | some z =>
   refine (show Ev c m led e (vI z) from h) _ _ s S fun v s' hv S' => ?_
   (refine E_e (q0a hv) fun t z1z => ?_; subst z1z)
   exact k _ _ (.int _ _) S'
theorem EvG.cutG {D : Addr} {i : Nat} {vs : List Value} {lw up : Option Expr} {lo hi : Option Int} {p2 : Pos} (f : List Value -> List Value) (ha : Ev c m led a (.ref D)) (hD : led[i]? = some (D, lsO vs)) (hl : EvP c m led lw lo) (hu : EvP c m led up hi) (hz : vs.length <= 1000)
  (hp : ∀ its : List Value, its.length = vs.length -> slicePick its.toArray lo hi none = (f its).toArray) (hf : ∀ its : List Value, (f its).map eV = f (its.map eV)) : EvG c m led (.Subscript a (.Slice lw up none p2) pos) (NewO led (lsO (f vs))) := by
 intro Q E s S h
 refine Subscript_ (ha _ _ s S fun va s1 ea S1 => ?_)
 obtain rfl := q04 ea
 refine wpAny_Slice (hl.run S1 fun vl s2 pl S2 => hu.run S2 fun vu s3 pu S3 => wpAny_pure ?_)
 (refine q00 S3 fun m' led' F hm' N hl' hn hg => ?_; (try clear S3))
 (refine E_ea (q03 hl' hD) fun o' h2 h3 => ?_)
 (refine q07 (q0b h3) fun its n z1z h4 => ?_; subst z1z)
 have hln : its.length = vs.length := by rw [<- h4, List.length_map]
 refine qc3 F N (List.mem_of_getElem? h2) pl pu (by rw [hln]; exact Nat.le_trans hz (by decide)) fun D' h' F' N' l1 => ?_
 refine h _ _ _ ⟨D', rfl, rfl⟩ ⟨m', _, F', hm', N', ?_, q0d hl' hn l1, hg⟩
 rw [List.map_cons, hl', eP, hp _ hln, q18 (hf its), h4]
theorem EvG.cut1 {D : Addr} {i : Nat} {vs : List Value} {p2 : Pos} (ha : Ev c m led a (.ref D)) (hD : led[i]? = some (D, lsO vs)) (hl : Ev c m led b (vI 1)) (hz : vs.length <= 1000) (h1 : 1 <= vs.length) : EvG c m led (.Subscript a (.Slice (some b) none none p2) pos) (NewO led (lsO (vs.drop 1))) :=
 EvG.cutG (lo := some 1) (hi := none) (List.drop 1) ha hD hl trivial hz (fun its h => q9r (h ▸ h1)) fun its => List.map_drop
theorem EvG.cutTo {D : Addr} {i j : Nat} {vs : List Value} {p2 : Pos} (ha : Ev c m led a (.ref D)) (hD : led[i]? = some (D, lsO vs)) (hl : Ev c m led b (vI ((j : Int) + 1))) (hz : vs.length <= 1000) : EvG c m led (.Subscript a (.Slice none (some b) none p2) pos) (NewO led (lsO (vs.take (j + 1)))) :=
 EvG.cutG (lo := none) (hi := some ((j : Int) + 1)) (List.take (j + 1)) ha hD trivial hl hz (fun its _ => q52 j) fun its => List.map_take
theorem Tb.eq0 {D : Addr} {i : Nat} {vs : List Value} {p2 : Pos} (ha : Ev c m led a (.ref D)) (hD : led[i]? = some (D, lsO vs)) (hu : c.un + 100 < cLine) (hm : behindInMarks .Eq (.List [] p2) = false) : Tb c m led (.Compare a [.Eq] [.List [] p2] pos) (decide (vs = [])) := by
 intro Q E s S h
 refine wpAny_isTrue_Compare1 (ha _ _ s S fun va s1 ea S1 => EvG.list EvA.nil (Nat.zero_le _) _ _ s1 S1 fun vb l s2 hv S2 => ?_) hm
 obtain rfl := q04 ea
 obtain ⟨D2, hv, rfl⟩ := hv
 obtain rfl := q04 hv
 (refine E_ea (S2.list (i := i + 1) hD) fun its hL hit => ?_)
 (refine E_ea (S2.list (i := 0) rfl) fun its2 hL2 hit2 => ?_)
 obtain rfl : its2 = [] := List.map_eq_nil_iff.mp hit2
 have hu' : c.A.units < cLine := by show c.un < _; exact Nat.lt_of_le_of_lt (Nat.le_add_right _ _) hu
 by_cases e : vs = []
 ·obtain rfl : its = [] := List.map_eq_nil_iff.mp (hit.trans e)
  rw [decide_eq_true e] at h
  exact (SeqAt.RcAt.lists (e := fun _ => true) hL hL2 rfl hu' fun j h1 h2 => by simp at h2) _ _ E _ (wpAny_truthy_bool (h _ S2.drop))
 ·rw [decide_eq_false e] at h
  have hne : its ≠ [] := fun q => e (by rw [<- hit, q]; rfl)
  exact (SeqAt.RcAt.lists_lengths hL hL2 (by simpa using hne) hu') _ _ E _ (wpAny_truthy_bool (h _ S2.drop))
theorem Bd.ext {D : Addr} {i0 : Nat} {vs : List Value} {R : Value -> Led -> Prop} {pl : Sem Bool} {ap p2 : Pos} (ha : Ev c m led a (.ref D)) (hD : led[i0]? = some (D, lsO vs)) (hb : EvG c m led b R) (hz : vs.length < 1000)
  (hr : ∀ v l, R v l -> ∃ (B : Addr) (j k : Nat) (ws : List Value), v = .ref B /\ l[k]? = some (B, lsO ws) /\ l[j]? = some (D, lsO vs) /\ ws.length < 1000 /\ Bd c m (l.set j (D, lsO (vs ++ ws))) rest P)
  (hc : eval (.Call (.Attribute a "extend" ap) [b] [] pos) c.env = (do let ov <- eval a c.env; standAt ap.atName; let (f, first) <- holding [ov] (getMethod ov "extend" pl); callWith pos f first (backTo pos (starEach [b] c.env)) [])) (hs : starEach [b] c.env = (false, eval b c.env) :: starEach [] c.env) (hq : interactive c.env = false) :
  Bd c m led (.Expr (.Call (.Attribute a "extend" ap) [b] [] pos) p2 :: rest) P := by
 refine Bd.expr (R := fun _ l2 => Bd c m l2 rest P) ?_ (fun _ _ h => h) hq rfl
 intro Q E s S h
 refine MethodCall_ (ha _ _ s S fun va s1 ea S1 => ?_) hc
 obtain rfl := q04 ea
 have S2 := S1
 (refine q0g S1 fun m' led' F hm' N hl _ => ?_; (try clear S1))
 (refine E_ea (q03 hl hD) fun o' h2 h3 => ?_)
 (refine q07 (q0b h3) fun its n z1z h4 => ?_; subst z1z)
 refine listMethod_K N (List.mem_of_getElem? h2) PySem.F.slot_list_extend PySem.F.type_list_extend ?_
 refine PyProof.Rows.callWith_method1 (args_cons (hb _ _ s1 S2 fun vb l s3 eb S3 => args_nil ?_) hs) hs rfl
 (refine q54 (hr _ _ eb) fun B j k ws hv hk hj hw hB => ?_)
 obtain rfl := q04 hv
 clear F hm' N hl h2 h3 h4
 (refine q00 S3 fun m' led' F hm' N hl hn hg => ?_; (try clear S3))
 (refine E_ea (q03 hl hj) fun o' h2 h3 => ?_)
 (refine q07 (q0b h3) fun its n z1z h4 => ?_; subst z1z)
 (refine E_ea (q03 hl hk) fun o2 g2 g3 => ?_)
 (refine q07 (q0b g3) fun jts n2 z1z g4 => ?_; subst z1z)
 refine ext9 F N (List.mem_of_getElem? g2) (q1b h2 (by rw [q0e hl]; exact hn)) (by rw [<- List.length_map (f := eV), h4]; exact hz) (by rw [<- List.length_map (f := eV), g4]; exact hw) fun h' k' F' N' => h _ _ _ hB (SS.upd hm' hl hn hg hj F' N' ?_)
 exact q13 (by rw [List.map_append, h4, g4])
noncomputable def JP (c : Cx) (I : Fm -> Led -> Prop) : Flow -> Shared -> Prop := fun f s => f = .next /\ ∃ m l, I m l /\ SS c m l s
theorem Bd.iteJ {test : Expr} {body orelse : List Stmt} {t : Bool} (I : Fm -> Led -> Prop) (ht : Tb c m led test t) (h1 : t = true -> Bd c m led body (JP c I)) (h2 : t = false -> Bd c m led orelse (JP c I)) (hr : ∀ m l, I m l -> Bd c m l rest P) : Bd c m led (.If test body orelse pos :: rest) P := by
 have fin : ∀ f s, JP c I f s -> q3t c rest P f s := by
  (intro _; intro s; intro z1y; refine q1i z1y fun z2z m2 l2 hI S => ?_; (try clear z1y); subst z2z)
  exact fun Q E hE k => hr m2 l2 hI Q E s hE S k
 exact Bd.ite ht (fun h => (h1 h).mono fin) fun h => (h2 h).mono fin
end
end
section
section
variable {c : Cx} {m : Fm} {led : Led} {pos spos : Pos} {x y z : Str} {rest : List Stmt} {P : Flow -> Shared -> Prop}
theorem qfs {elt it1 it2 t : Expr} {px py pz : Pos} {scope : Scope} {cl : List (Str × Addr)} {W : Addr -> Obj -> Led -> Prop} (ok : c.Ok)
  (hsw : swapsWith (.ListComp elt [⟨.Name x px, it1, [], 0⟩, ⟨.Name y py, it2, [t], 0⟩] scope pos) (some (.Name z pz)) spos.line c.env = pure true) (hz : c.env.kindOf z = some .local)
  (hclos : closureFor scope c.env = pure cl) (hcell : ∀ y ∈ scope.names, y.2 ≠ .cell) (hkind : scope.kind = .function) (hnames : ∀ y ∈ scope.names, y.2 = .local -> scope.names.lookup y.1 = some .local) (hx : scope.names.lookup x = some .local) (hy : scope.names.lookup y = some .local) (hxy : x ≠ y)
  (hs : ∀ v, foldedSetIterable it1 c.env v = pure v) (hs2 : ∀ C v, foldedSetIterable it2 (compEnvC scope cl C c.env) v = pure v) (hit : ItE c m led it1 W)
  (hw : ∀ It io l, W It io l -> ∃ n val IT Inv, ∃ J : Nat -> List Value -> Led -> Prop, IT 0 io /\ Itr c It n val IT Inv /\ (∀ p l, Inv l -> Inv (p :: l)) /\ J 0 [] l /\ (∀ i ys l, J i ys l -> Inv l) /\
   (∀ i ys l C D oC io mm, (c.comp scope cl C).OkG -> i < n -> IT (i + 1) io -> NsO oC mm -> mm x = some (val i) -> J i ys l -> ∃ W2, ItE (c.comp scope cl C) m ((It, io) :: (C, oC) :: (D, lsO ys) :: l) it2 W2 /\
    ∀ Jt jo l2, W2 Jt jo l2 -> l2 = (It, io) :: (C, oC) :: (D, lsO ys) :: l /\ ∃ n2 val2 IT2 Inv2, ∃ K : Nat -> List Value -> Led -> Prop, IT2 0 jo /\ Itr c Jt n2 val2 IT2 Inv2 /\ (∀ p l, Inv2 l -> Inv2 (p :: l)) /\ K 0 ys l /\ (∀ j ys l, K j ys l -> Inv2 l /\ ys.length <= 1000) /\
     (∀ j ys l oC jo mm, j < n2 -> IT2 (j + 1) jo -> NsO oC mm -> mm x = some (val i) -> mm y = some (val2 j) -> K j ys l -> ∃ b, Tb (c.comp scope cl C) m ((Jt, jo) :: (It, io) :: (C, oC) :: (D, lsO ys) :: l) t b /\
      (b = true -> EvG (c.comp scope cl C) m ((Jt, jo) :: (It, io) :: (C, oC) :: (D, lsO ys) :: l) elt (fun v l2 => ∃ l3, l2.Perm ((Jt, jo) :: (It, io) :: (C, oC) :: (D, lsO ys) :: l3) /\ K (j + 1) (ys ++ [v]) l3)) /\ (b = false -> K (j + 1) ys l)) /\
     (∀ ys l, K n2 ys l -> J (i + 1) ys l)) /\
   (∀ ys l D, J n ys l -> Bd c (updM m z (.ref D)) ((D, lsO ys) :: l) rest P)) :
  Bd c m led (.Assign [.Name z pz] (.ListComp elt [⟨.Name x px, it1, [], 0⟩, ⟨.Name y py, it2, [t], 0⟩] scope pos) spos :: rest) P := by
 intro Q0 E s hE S k
 refine wpAny_execs_cons ?_
 rw [exec_Assign_Name_used _ _ _ _ hsw]
 refine wpAny_bind (wpAny_standAt (wpAny_bind ?_))
 show wpAny _ _ (do let _ <- comprehension (.ListComp elt [⟨.Name x px, it1, [], 0⟩, ⟨.Name y py, it2, [t], 0⟩] scope pos) scope c.env _ (newList []) false (eval it1 c.env) (some (assign (.Name z pz) c.env))) _ _ s
 refine wpAny_bind (wpAny_mono (wpAny_comprehension_free (use := some (assign (.Name z pz) c.env)) (Q := fun _ s' => wpAny c.M c.A (execs rest c.env) Q0 E s') rfl hs hclos hkind hnames ?_) (fun _ s' hq => wpAny_pure (wpAny_pure hq)) fun _ _ e => e)
 have okG := ok.toOkG
 generalize hQ : (fun (_ : Value) (s' : Shared) => wpAny c.M c.A (execs rest c.env) Q0 E s') = Q
 refine hit _ _ _ s S fun It io l s1 hW S1 => ?_
 (refine q5w (hw _ _ _ hW) fun n val IT Inv J hIT H hmono hJ0 hJI turn done => ?_)
 refine SS.compNew (Q := fun acc cenv s₄ => codeAny c.M c.A (.compStart (.ListComp elt [⟨.Name x px, it1, [], 0⟩, ⟨.Name y py, it2, [t], 0⟩] scope pos) 0 (.ref It) acc { cenv with scope := relabel scope c.env }) (compPost c.M c.A E (some (assign (.Name z pz) c.env)) Q acc cenv.locals) s₄) S1 hcell hkind fun C D oC s4 g2 S4 => ?_
 have go : codeAny c.M c.A (.compLoop (.ListComp elt [⟨.Name x px, it1, [], 0⟩, ⟨.Name y py, it2, [t], 0⟩] scope pos) 0 (.ref It) (.ref D) (compEnvC scope cl C c.env)) (compPost c.M c.A E (some (assign (.Name z pz) c.env)) Q (.ref D) C) s4 := by
  refine q7q (fun k s' => ∃ i ys l' oC, ∃ mm : Fm, ∃ io, NsO oC mm /\ IT i io /\ J i ys l' /\ i <= n /\ SS c m ((It, io) :: (C, oC) :: (D, lsO ys) :: l') s' /\ k = n + 1 - i) ?_ (n + 1)
   ⟨0, [], l, oC, _, io, g2, hIT, hJ0, Nat.zero_le _, S4, rfl⟩ (hs2 C)
  (intro k'; intro s'; intro z1y; refine q5o z1y fun i ys l' oC mm io hN hI hJ hi S z2z => ?_; (try clear z1y); subst z2z)
  by_cases hlt : i < n
  ·refine H.nx i m _ s' _ _ hlt (hmono _ _ (hmono _ _ (hJI _ _ _ hJ))) ⟨io, hI, S⟩ fun v' s2 hv hS2 => ?_
   (refine E_ea hS2 fun io2 hI2 S2 => ?_; (try clear hS2))
   refine wpAny_assign_Name (SS.storeH (c := c.comp scope cl C) (okG.comp hkind) (S2.perm (List.Perm.swap _ _ _)) rfl hN hv (lookup_relabel_local hx) fun oC' s3 hN' S3 => ?_)
   (refine E_ea (turn i ys l' C D oC' io2 _ (okG.comp hkind) hlt hI2 hN' (by unfold updM; rw [if_pos rfl]) hJ) fun W2 hit2 hw2 => ?_)
   refine hit2 _ _ _ s3 (S3.perm (List.Perm.swap _ _ _)) fun Jt jo lx s4 hW2 S4 => ?_
   (refine q4q (hw2 _ _ _ hW2) fun z1z n2 val2 IT2 Inv2 K hIT2 H2 hmono2 hK0 hKI turn2 done2 => ?_; subst z1z)
   rw [Around.mark_none]
   have hxv : updM mm x (val i) x = some (val i) := by unfold updM; rw [if_pos rfl]
   have go2 : codeAny c.M c.A (.compLoop (.ListComp elt [⟨.Name x px, it1, [], 0⟩, ⟨.Name y py, it2, [t], 0⟩] scope pos) 1 (.ref Jt) (.ref D) (compEnvC scope cl C c.env)) (fun r s' => match r with | .ok _ => ∃ k2, k2 < n + 1 - i /\ ∃ i ys l' oC, ∃ mm : Fm, ∃ io, NsO oC mm /\ IT i io /\ J i ys l' /\ i <= n /\ SS c m ((It, io) :: (C, oC) :: (D, lsO ys) :: l') s' /\ k2 = n + 1 - i | .error e => cameBackBy c.M c.A (compEnvC scope cl C c.env) (notedBy c.M c.A (compEnvC scope cl C c.env) fun e s' => compPost c.M c.A E (some (assign (.Name z pz) c.env)) Q (.ref D) C (.error e) s') e s') s4 := by
    refine q7k (fun k s' => ∃ j ys l' oC, ∃ mm : Fm, ∃ jo, NsO oC mm /\ mm x = some (val i) /\ IT2 j jo /\ K j ys l' /\ j <= n2 /\ SS c m ((Jt, jo) :: (It, io2) :: (C, oC) :: (D, lsO ys) :: l') s' /\ k = n2 + 1 - j) ?_ (n2 + 1) ⟨0, ys, l', oC', _, jo, hN', hxv, hIT2, hK0, Nat.zero_le _, S4, rfl⟩
    (intro k3; intro s'; intro z1y; refine q2f z1y fun j ys2 l3 oC2 mm2 jo2 hN2 hmx hJ2 hK hj S z2z => ?_; (try clear z1y); subst z2z)
    by_cases hlt2 : j < n2
    ·refine H2.nx j m _ s' _ _ hlt2 (hmono2 _ _ (hmono2 _ _ (hmono2 _ _ (hKI _ _ _ hK).1))) ⟨jo2, hJ2, S⟩ fun w s5 hw5 hS5 => ?_
     (refine E_ea hS5 fun jo3 hJ3 S5 => ?_; (try clear hS5))
     refine wpAny_assign_Name (SS.storeH (c := c.comp scope cl C) (okG.comp hkind) (S5.perm (List.perm_append_comm_assoc [_, _] [_] _)) rfl hN2 hw5 (lookup_relabel_local hy) fun oC3 s6 hN3 S6 => ?_)
     have hmx3 : updM mm2 y (val2 j) x = some (val i) := by unfold updM; rw [if_neg hxy]; exact hmx
     (refine q1u (turn2 j ys2 l3 oC3 jo3 _ hlt2 hJ3 hN3 hmx3 (by unfold updM; rw [if_pos rfl]) hK) fun b ht hb1 hb2 => ?_)
     have hdec : n2 + 1 - (j + 1) < n2 + 1 - j := Nat.sub_lt_sub_left (Nat.lt_succ_of_lt hlt2) (Nat.lt_succ_self j)
     refine qdf (ht _ _ s6 (S6.perm (List.perm_append_comm_assoc [_] [_, _] _)) fun s7 S7 => ?_)
     cases b with
     | false =>
      rw [if_neg (by decide)]
      exact ⟨n2 + 1 - (j + 1), hdec, j + 1, ys2, l3, oC3, _, jo3, hN3, hmx3, hJ3, hb2 rfl, hlt2, S7, rfl⟩
     | true =>
      rw [if_pos rfl]
      refine hb1 rfl _ _ s7 S7 fun v l4 s8 hv S8 => ?_
      (refine E_ea hv fun l5 hp hK5 => ?_; (try clear hv))
      exact (S8.perm hp).appendL (i := 3) rfl (hKI _ _ _ hK).2 fun s9 S9 => ⟨n2 + 1 - (j + 1), hdec, j + 1, ys2 ++ [eV v], l5, oC3, _, jo3, hN3, hmx3, hJ3, hK5, hlt2, S9, rfl⟩
    ·obtain rfl : j = n2 := Nat.le_antisymm hj (Nat.le_of_not_lt hlt2)
     refine H2.nd m _ s' _ _ (hmono2 _ _ (hmono2 _ _ (hmono2 _ _ (hKI _ _ _ hK).1))) ⟨jo2, hJ2, S⟩ fun s5 S5 => ?_
     exact ⟨n + 1 - (i + 1), Nat.sub_lt_sub_left (Nat.lt_succ_of_lt hlt) (Nat.lt_succ_self i), i + 1, ys2, l3, oC2, mm2, io2, hN2, hI2, done2 _ _ hK, hlt, S5, rfl⟩
   exact q75 go2 (H2.it jo m _ _ _ _ hIT2 S4 go2)
  ·obtain rfl : i = n := Nat.le_antisymm hi (Nat.le_of_not_lt hlt)
   refine H.nd m _ s' _ _ (hmono _ _ (hmono _ _ (hJI _ _ _ hJ))) ⟨io, hI, S⟩ fun s2 S2 => ?_
   show wpAny c.M c.A (assign (.Name z pz) c.env (.ref D)) _ _ _
   refine wpAny_assign_Name (SS.store ok S2 rfl hz fun s3 S3 => ?_)
   (refine E_ea (hN.ns (S3.head hN.fix)) fun m2 hns _ => ?_)
   refine ⟨m2, hns, fun h' hs' => ?_⟩
   rw [<- hQ]
   exact done ys l' D hJ _ _ _ hE (S3.past (s := s3) (tk := s3.toks) fun b ob hb e => hs'.extBut b ob (fun q => hb (by rw [q]; exact .head _)) e) k
 refine codeAny_compStart_list go (H.it io m _ _ _ _ hIT S4 go)
end
end
section
section
variable {c : Cx} {m : Fm} {led : Led} {a b e : Expr} {pos : Pos} {rest : List Stmt} {P : Flow -> Shared -> Prop} {x : Int}
theorem Ev.index {D : Addr} {i : Nat} {ns : List Int} {pl : Sem Bool} {ap : Pos} (ha : Ev c m led a (.ref D)) (hb : Ev c m led b (vI x)) (hi : led[i]? = some (D, lsI ns)) (hx : x ∈ ns) (hz : ns.length <= 1000)
  (hc : eval (.Call (.Attribute a "index" ap) [b] [] pos) c.env = (do let ov <- eval a c.env; standAt ap.atName; let (f, first) <- holding [ov] (getMethod ov "index" pl); callWith pos f first (backTo pos (starEach [b] c.env)) [])) (hs : starEach [b] c.env = (false, eval b c.env) :: starEach [] c.env) : Ev c m led (.Call (.Attribute a "index" ap) [b] [] pos) (vI (ns.idxOf x)) := by
 intro Q E s S h
 refine MethodCall_ (ha _ _ s S fun va s1 ea S1 => ?_) hc
 obtain rfl := q04 ea
 have S2 := S1
 (refine q0g S1 fun m' led' F hm' N hl _ => ?_; (try clear S1))
 (refine E_ea (q03 hl hi) fun o' h2 h3 => ?_)
 (refine q07 (q0b h3) fun its n z1z h4 => ?_; subst z1z)
 refine listMethod_K N (List.mem_of_getElem? h2) PySem.F.slot_list_index PySem.F.type_list_index ?_
 refine PyProof.Rows.callWith_method1 (args_cons (hb _ _ s1 S2 fun vb s3 eb S3 => args_nil ?_) hs) hs rfl
 (refine E_e (q0a eb) fun t z1z => ?_; subst z1z)
 clear F hm' N hl h2 h3 h4
 have S4 := S3
 (refine q0g S3 fun m' led' F hm' N hl _ => ?_; (try clear S3))
 (refine E_ea (q03 hl hi) fun o' h2 h3 => ?_)
 (refine q07 (q0b h3) fun its n z1z h4 => ?_; subst z1z)
 have hln : its.length = ns.length := by rw [<- List.length_map (f := eV), h4, List.length_map]
 exact kf_index N (List.mem_of_getElem? h2) (kfi (q0r h4)) (kfat (q0r h4) hx) rfl (by rw [List.toList_toArray, hln]; exact q5t hz) (h _ _ rfl S4)
theorem Tb.ne0 {D : Addr} {i : Nat} {vs : List Value} {p2 : Pos} (ha : Ev c m led a (.ref D)) (hD : led[i]? = some (D, lsO vs)) (hu : c.un + 100 < cLine) (hm : behindInMarks .NotEq (.List [] p2) = false) : Tb c m led (.Compare a [.NotEq] [.List [] p2] pos) (decide (vs.length ≠ 0)) := by
 intro Q E s S h
 refine wpAny_isTrue_Compare1 (ha _ _ s S fun va s1 ea S1 => EvG.list EvA.nil (Nat.zero_le _) _ _ s1 S1 fun vb l s2 hv S2 => ?_) hm
 obtain rfl := q04 ea
 obtain ⟨D2, hv, rfl⟩ := hv
 obtain rfl := q04 hv
 (refine E_ea (S2.list (i := i + 1) hD) fun its hL hit => ?_)
 (refine E_ea (S2.list (i := 0) rfl) fun its2 hL2 hit2 => ?_)
 obtain rfl : its2 = [] := List.map_eq_nil_iff.mp hit2
 rw [<- hit, List.length_map] at h
 exact q82 hL hL2 (by show c.un < _; exact Nat.lt_of_le_of_lt (Nat.le_add_right _ _) hu) (wpAny_truthy_bool (h _ S2.drop))
end
end
section
noncomputable def TriE (l : Led) (v : Value) (f : Tri) : Prop := ∃ t, v = .ref t /\ (t, tpO [vI f.1, vI f.2.1, vI f.2.2]) ∈ l
theorem TriE.in {l l' : Led} (hl : l'.map eP = l) {v : Value} {f : Tri} (h : TriE l (eV v) f) : qcr l' v f := by
 (refine E_ea h fun t hv hm => ?_; (try clear h))
 obtain rfl := q04 hv
 rw [<- hl] at hm
 (refine E_ea (List.mem_map.mp hm) fun z1z h1 h2 => ?_; obtain ⟨t', o⟩ := z1z)
 obtain rfl : t' = t := congrArg Prod.fst h2
 (refine q07 (q8q (congrArg Prod.snd h2 : eO o = _)) fun its n z1z h4 => ?_; subst z1z)
 have hI : IntsAre its [f.1, f.2.1, f.2.2] := q0r h4
 (refine q07 (qb3 hI) fun t1 w1 z1z hI1 => ?_; subst z1z)
 (refine q07 (qb3 hI1) fun t2 w2 z1z hI2 => ?_; subst z1z)
 (refine q07 (qb3 hI2) fun t3 w3 z1z hI3 => ?_; subst z1z)
 obtain rfl := qgt hI3
 exact ⟨t', _, t1, t2, t3, n, rfl, h1, rfl, rfl⟩
theorem q8v {R : Value -> Tri -> Prop} {H : Heap} (hR : ∀ v f, R v f -> q2z H v = f) : ∀ (vs : List Value) (fs : List Tri) (b : Value) (f : Tri), R b f -> All2 R vs fs -> R (q1w (fun u v => q0v (q2z H u) (q2z H v)) b vs) (q1t f fs)
 | [], [], _, _, h, _ => h
 | [], _ :: _, _, _, _, x => x.elim
 | _ :: _, [], _, _, _, x => x.elim
 | v :: vs, g :: fs, b, f, h, x => by
  have ih := q8v hR vs fs
  show R (q1w (fun u v => q0v (q2z H u) (q2z H v)) (if q0v (q2z H v) (q2z H b) = true then v else b) vs) (q1t (if q0v g f = true then g else f) fs)
  rw [hR _ _ h, hR _ _ x.1]
  cases q0v g f with
  | true => exact ih v g x.1 x.2
  | false => exact ih b f h x.2
theorem All2.ofMap {α β γ : Type} {R : β -> γ -> Prop} {g : α -> β} : ∀ {l : List α} {r : List γ}, All2 R (l.map g) r -> All2 (fun a c => R (g a) c) l r
 | [], [], _ => trivial
 | [], _ :: _, x => x.elim
 | _ :: _, [], x => x.elim
 | _ :: _, _ :: _, x => ⟨x.1, All2.ofMap x.2⟩
theorem All2.ex {α β : Type} {R : α -> β -> Prop} {a : α} : ∀ {l : List α} {r : List β}, All2 R l r -> a ∈ l -> ∃ b, R a b
 | _ :: _, _ :: _, x, h => by
  rcases List.mem_cons.mp h with rfl | h
  ·exact ⟨_, x.1⟩
  ·exact All2.ex x.2 h
 | [], _, _, h => by cases h
section
variable {c : Cx} {m : Fm} {led : Led} {a e : Expr} {pos : Pos}
theorem EvG.minT {D : Addr} {i : Nat} {vs : List Value} {f0 : Tri} {fs : List Tri} (hf : Ev c m led e (.builtin "min")) (ha : Ev c m led a (.ref D)) (hi : led[i]? = some (D, lsO vs)) (hT : All2 (TriE led) vs (f0 :: fs)) (hu : c.un + 100 < cLine)
  (hc : eval (.Call e [a] [] pos) c.env = (do callWith pos (<- eval e c.env) [] (backTo pos (starEach [a] c.env)) (backToKw pos (keywordEach [] c.env)))) (hs : starEach [a] c.env = (false, eval a c.env) :: starEach [] c.env) : EvG c m led (.Call e [a] [] pos) (fun v l => l = led /\ TriE led v (q1t f0 fs)) := by
 intro Q E s S h
 refine Call_ (hf _ _ s S fun vf s0 ef S0 => ?_) hc
 obtain rfl := q0t ef
 refine PyProof.Rows.callWith_builtin1 (args_cons (ha _ _ s0 S0 fun va s1 ea S1 => args_nil ?_) hs) hs rfl
 obtain rfl := q04 ea
 (refine q00 S1 fun m' led' F hm' N hl hn hg => ?_; (try clear S1))
 (refine E_ea (q03 hl hi) fun o' h2 h3 => ?_)
 (refine q07 (q0b h3) fun its n z1z h4 => ?_; subst z1z)
 rw [<- h4] at hT
 cases its with
 | nil => exact hT.elim
 | cons v0 r =>
  have key : ∀ v f, TriE led (eV v) f -> q2z s1.heap v = f := fun v f x => q61 N (x.in hl)
  have hT2 : All2 (fun v f => TriE led (eV v) f) (v0 :: r) (f0 :: fs) := All2.ofMap hT
  refine qb9 (fun u v => q0v (q2z s1.heap u) (q2z s1.heap v)) rfl F N (News.isList N (List.mem_of_getElem? h2)) (fun u v s' Q E hu1 hv1 hk q => ?_) fun h' tk F' N' => ?_
  ·(refine E_e (hT2.ex hu1) fun f hf => ?_)
   (refine E_e (hT2.ex hv1) fun g hg => ?_)
   exact qev N (hf.in hl) (hg.in hl) hk (by show c.un + 1 < _; exact Nat.lt_of_le_of_lt (Nat.add_le_add_left (by decide) _) hu) q
  ·exact h _ _ _ ⟨rfl, q8v (R := fun v f => TriE led (eV v) f) key r fs v0 f0 hT2.1 hT2.2⟩ ⟨m', led', F', hm', N', hl, hn, hg⟩
end
end
section
section
variable {c : Cx} {m : Fm} {led : Led} {a e : Expr} {pos : Pos}
theorem EvG.addLG {R R' : Value -> Led -> Prop} {es : List Expr} {p2 : Pos} (ha : EvG c m led a R)
  (hR : ∀ v l, R v l -> ∃ (D : Addr) (i : Nat) (ns ms : List Int), v = .ref D /\ l[i]? = some (D, lsI ns) /\ EvA c m l es (ms.map vI) /\ ns.length + ms.length <= 1000 /\ ∀ D', R' (.ref D') ((D', lsI (ns ++ ms)) :: l)) :
  EvG c m led (.BinOp a .Add (.List es p2) pos) R' := by
 intro Q E s S h
 refine wpAny_BinOp (ha _ _ s S fun va l s1 ea S1 => ?_)
 (refine q54 (hR _ _ ea) fun D i ns ms hv hi hb hz hR' => ?_)
 obtain rfl := q04 hv
 have hz2 : ns.length + ms.length <= sizeLine := Nat.le_trans hz (by decide)
 refine EvG.list hb (by rw [List.length_map]; exact Nat.le_trans (Nat.le_add_left _ _) hz2) _ _ s1 S1 fun vb l2 s2 hv S2 => ?_
 (refine E_ea hv fun D2 hD z1z => ?_; (try clear hv); subst z1z)
 obtain rfl := q04 hD
 (refine q00 S2 fun m' led' F hm' N hl hn hg => ?_; (try clear S2))
 (refine E_ea (q03 hl (q06 hi)) fun o1 h1 h2 => ?_)
 (refine q07 (q0b h2) fun vs k1 z1z h3 => ?_; subst z1z)
 (refine E_ea (q03 (i := 0) hl rfl) fun o2 g1 g2 => ?_)
 (refine q07 (q0b g2) fun ws k2 z1z g3 => ?_; subst z1z)
 refine kmk_add_ints F N (News.isList N (List.mem_of_getElem? h1)) (News.isList N (List.mem_of_getElem? g1)) (q0r h3) (q0r g3) (fun D' us h' F' N' l1 hI => ?_) hz2
 refine h _ _ _ (hR' D') (SS.drop2 (q := (D2, lsI ms)) ⟨m', _, F', hm', N', ?_, q0d hl hn l1, hg⟩)
 rw [List.map_cons, hl]
 congr 1
 show (D', eO _) = _
 rw [q18 (q2i hI)]
theorem q16 {l : Led} {p : Addr × Obj} (h : p ∈ l) : ∃ i : Nat, l[i]? = some p := List.getElem?_of_mem h
end
end
section
theorem q6g {M : Model} {A : Around} {f : Value} {row : List (Bool × Sem Value)} {Q : Args -> Shared -> Prop} {E : Value -> Shared -> Prop} {s : Shared} (hp : row.any (·.1) = false) (h : wpAny M A (spliced row) (fun vs s' => Q ⟨vs, []⟩ s') E s) : wpAny M A (evalArgs f true row []) Q E s := by
 rcases row with _ | ⟨⟨b, x⟩, rest⟩
 ·unfold evalArgs
  show wpAny M A (spliced [] >>= _) Q E s
  refine wpAny_bind (wpAny_mono h (fun vs s' h' => ?_) fun _ _ x => x)
  refine wpAny_holding ?_
  exact wpAny_bind (wpAny_pure (wpAny_bind (wpAny_pure (wpAny_pure h'))))
 ·cases b with
  | false => exact evalArgs_plain h
  | true => cases hp
noncomputable abbrev aO (its : List Value) (dx : Addr) : Obj := accO its 0 dx
theorem qgm {o : Obj} {vs : List Value} {dx : Addr} (h : eO o = aO vs dx) : ∃ (its : List Value) (ep : Nat), o = accO its ep dx /\ its.map eV = vs := by
 obtain ⟨c1, d1, dt, sl⟩ := o
 have hc := q6o h
 dsimp only at hc
 subst hc
 simp only [eO, tokC, cond_true, Obj.mk.injEq, true_and] at h
 (refine E_aa h fun h2 h3 h4 => ?_; (try clear h))
 (refine q08 (q8h h3) fun xs n z1z h5 z2z => ?_; subst z1z; (try clear z2z))
 refine ⟨xs.toList, n, ?_, ?_⟩
 ·rw [h2, h4]
 ·rw [<- Array.toList_map, h5]
theorem q6y {vs vs' : List Value} {k : Nat} {dx : Addr} (h : vs'.map eV = vs) : eO (accO vs' k dx) = aO vs dx := by
 rw [<- h]
 simp only [eO, tokC, cond_true, eD, Obj.mk.injEq, Data.seq.injEq, and_true, true_and]
 exact ⟨List.map_toArray, rfl⟩
noncomputable def DzO (sz : Int) (o : Obj) : Prop := ∃ hs1 ts tz, o = dictOf [⟨hs1, .str q0o ts, .int sz tz⟩] 1
theorem DzO.fix {sz : Int} {o : Obj} (h : DzO sz o) : fixD o.data = true := by (refine q2n h fun _ _ _ z1z => ?_; (try clear h); subst z1z); rfl
structure FX where
 (fo fd a1 dx ll : Addr) (od : Obj) (Wd : Int) (sp : Str)
structure FZ where
 (its lines : List Value) (sz : Int)
noncomputable def FP (F : FX) (σ : FZ) (dz : Obj) (pa pb : Array Value) (ex : Led) : Led := (F.fo, fmtO F.fd) :: (F.fd, F.od) :: (F.a1, aO σ.its F.dx) :: (F.dx, dz) :: (F.ll, lsO σ.lines) :: (211, tabObj pa) :: (218, tabObj pb) :: ex
noncomputable def FX.Ok (F : FX) : Prop := ∃ K, F.od = fmtD K F.Wd F.sp F.ll F.a1
noncomputable def FL (F : FX) (σ : FZ) (ex l : Led) : Prop := ∃ dz pa pb, DzO σ.sz dz /\ TabG q8e pa /\ TabG q8w pb /\ l = FP F σ dz pa pb ex
noncomputable def ChE (l : Led) : List Value -> List (Str × Str) -> Prop := All2 fun v c => ∃ t, v = .ref t /\ (t, tpO [.str c.1 0, .str c.2 0]) ∈ l
theorem EvA.callK {c : Cx} {m : Fm} {l : Led} {es : List Expr} {vs first : List Value} {f : Value} {pos : Pos} {R : Value -> Led -> Prop} {Q E : Value -> Shared -> Prop} {s : Shared} (ok : c.OkG) (ha : EvA c m l es vs) (hp : (backTo pos (starEach es c.env)).any (·.1) = false) (hk : keepIn (Mine.hd.heap_1 c.w.params) f = true) (S : SS c m l s)
  (hcl : Cl c m l f (first.map eV ++ vs) R) (h : ∀ v' l' s', R (eV v') l' -> SS c m l' s' -> Q v' s') : wpAny c.M c.A (callWith pos f first (backTo pos (starEach es c.env)) []) Q E s := by
 refine callWith_of (by rw [hp]; rfl) (keeps_K hk) (q6g hp (ha _ _ _ s S fun vs' s1 ev S1 => ?_))
 have S2 := S1
 (refine q00 S1 fun m' led' F hm' N hl hn hg => ?_; (try clear S1))
 exact ⟨ok.X.keeps F.keep, hcl _ _ _ s1 S2 (by rw [List.map_append, ev]) h⟩
section
variable {c : Cx} {m : Fm} {l ex : Led} {a b e : Expr} {pos : Pos} {F : FX} {σ : FZ} {x dx : Addr} {i j : Nat}
theorem SS.acc {s : Shared} {its : List Value} {od : Obj} (S : SS c m l s) (h1 : l[i]? = some (x, aO its dx)) (h2 : l[j]? = some (dx, od)) (hd : fixD od.data = true) : ∃ its' ep, InstAt s.heap x (accO its' ep dx) 249 (some od) /\ its'.map eV = its := by
 have g2 := S.obj h2 hd
 (refine q00 S fun m' led' F hm' N hl hn hg => ?_; (try clear S))
 (refine E_ea (q03 hl h1) fun o' g3 g4 => ?_)
 (refine q07 (qgm g4) fun its' ep z1z h5 => ?_; subst z1z)
 exact ⟨its', ep, ⟨(N _ (List.mem_of_getElem? g3)).1, rfl, rfl, g2⟩, h5⟩
theorem Ev.asize {its : List Value} {dz : Obj} {sz : Int} (ok : c.OkG) (ha : Ev c m l a (.ref x)) (h1 : l[i]? = some (x, aO its dx)) (h2 : l[j]? = some (dx, dz)) (hz : DzO sz dz)
  (hA : eval (.Attribute a q0o pos) c.env = (do let o <- eval a c.env; standAt pos.atName; let r <- holding [o] (getAttr o q0o true); letTemporaryGo a o r; pure r)) : Ev c m l (.Attribute a q0o pos) (vI sz) := by
 intro Q E s h' h
 refine Attribute_any_ (ha _ _ s h' fun va s1 ea S1 => ?_) hA
 obtain rfl := q04 ea
 (refine q07 (S1.acc h1 h2 hz.fix) fun its' ep I z1z => ?_; (try clear z1z))
 (refine q2n hz fun hs1 ts tz z1z => ?_; (try clear hz); subst z1z)
 have S2 := S1
 (refine q00 S1 fun m' led' F hm' N hl hn hg => ?_; (try clear S1))
 refine attrL F ok.X I (attr := none) ?k4 ?k5 ?k6 ?k7 ?k8 ?k9 ?k10 ?k11 (h (.int sz tz) _ rfl S2)
 case k4 => k_is
 case k5 => k_is
 case k6 => k_is
 case k7 => k_is
 case k8 => k_is
 case k9 => k_is
 case k10 => rfl
 case k11 => rfl
theorem Ev.fget {name : Str} {v : Value} {fo fd : Addr} {es : List DictEntry} {n : Nat} {w : Value} (ok : c.OkG) (ha : Ev c m l a (.ref fo)) (h1 : l[i]? = some (fo, fmtO fd)) (h2 : l[j]? = some (fd, dictOf es n))
  (hg : plainGet (Mine.hd.heap_1 c.w.params) 165 name = true) (hk : findIn (Mine.hd.heap_1 c.w.params) (.ref 165) name = some none) (hd : hasDictIn (Mine.hd.heap_1 c.w.params) 165 = true) (hl : getL name es = some (some w)) (hv : handedIn w = true) (he : eV w = v)
  (hA : eval (.Attribute a name pos) c.env = (do let o <- eval a c.env; standAt pos.atName; let r <- holding [o] (getAttr o name true); letTemporaryGo a o r; pure r)) : Ev c m l (.Attribute a name pos) v := by
 intro Q E s h' h
 refine Attribute_any_ (ha _ _ s h' fun va s1 ea S1 => ?_) hA
 obtain rfl := q04 ea
 have g1 := S1.obj h1 rfl
 have g2 := S1.obj h2 rfl
 have S2 := S1
 (refine q00 S1 fun m' led' F hm' N hl' hn hg' => ?_; (try clear S1))
 exact get_own F ok.X (ox := fmtO fd) ⟨g1, rfl, rfl, g2⟩ hg hd hk rfl hl hv (h w _ he S2)
theorem EvG.accM {name : Str} {f : Addr} {its : List Value} {dz : Obj} {sz : Int} {es : List Expr} {vs : List Value} {R : Value -> Led -> Prop} {pl : Sem Bool} {ap : Pos} (ok : c.OkG) (ha : Ev c m l a (.ref x)) (h1 : l[i]? = some (x, aO its dx)) (h2 : l[j]? = some (dx, dz)) (hz : DzO sz dz)
  (hf : findIn (Mine.hd.heap_1 c.w.params) (.ref 249) name = some (some (.ref f))) (ht : isFn (Mine.hd.heap_1 c.w.params) (.ref f) = true) (hnm : ∀ hs ts w, getL name [⟨hs, .str q0o ts, w⟩] = some none) (hk : keepIn (Mine.hd.heap_1 c.w.params) (.ref f) = true)
  (ha2 : EvA c m l es vs) (hcl : Cl c m l (.ref f) (.ref x :: vs) R)
  (hc : eval (.Call (.Attribute a name ap) es [] pos) c.env = (do let ov <- eval a c.env; standAt ap.atName; let (f, first) <- holding [ov] (getMethod ov name pl); callWith pos f first (backTo pos (starEach es c.env)) []))
  (hp : (backTo pos (starEach es c.env)).any (·.1) = false) : EvG c m l (.Call (.Attribute a name ap) es [] pos) R := by
 intro Q E s h' h
 refine MethodCall_ (ha _ _ s h' fun va s1 ea S1 => ?_) hc
 obtain rfl := q04 ea
 (refine q07 (S1.acc h1 h2 hz.fix) fun its' ep I z1z => ?_; (try clear z1z))
 (refine q2n hz fun hs1 ts tz z1z => ?_; (try clear hz); subst z1z)
 have S2 := S1
 (refine q00 S1 fun m' led' F hm' N hl hn hg => ?_; (try clear S1))
 refine qbc F ok.X I ?k4 ?k5 hf ht ?k8 ?_
 case k4 => k_is
 case k5 => k_is
 case k8 => exact hnm _ _ _
 exact ha2.callK ok hp hk S2 hcl h
end
end
section
section
variable {c : Cx} {m : Fm} {l ex : Led} {a b e : Expr} {pos : Pos} {rest : List Stmt} {P : Flow -> Shared -> Prop} {x dx : Addr} {its : List Value} {sz : Int}
noncomputable def AtA (l : Led) (x dx : Addr) (its : List Value) (sz : Int) (i : Nat) : Prop := l[i]? = some (x, aO its dx) /\ ∃ (j : Nat) (dz : Obj), l[j]? = some (dx, dz) /\ DzO sz dz
theorem EvG.accApp {R R' : Value -> Led -> Prop} {pl : Sem Bool} {ap : Pos} {i : Nat} (ok : c.OkG) (ha : Ev c m l a (.ref x)) (hA : AtA l x dx its sz i) (hb : EvG c m l b R) (hz : its.length <= 1000)
  (hR : ∀ v l2, R v l2 -> ∃ i, AtA l2 x dx its sz i /\ R' .none (l2.set i (x, aO (its ++ [v]) dx)))
  (hc : eval (.Call (.Attribute a "append" ap) [b] [] pos) c.env = (do let ov <- eval a c.env; standAt ap.atName; let (f, first) <- holding [ov] (getMethod ov "append" pl); callWith pos f first (backTo pos (starEach [b] c.env)) [])) (hs : starEach [b] c.env = (false, eval b c.env) :: starEach [] c.env) :
  EvG c m l (.Call (.Attribute a "append" ap) [b] [] pos) R' := by
 intro Q E s S h
 refine MethodCall_ (ha _ _ s S fun va s1 ea S1 => ?_) hc
 obtain rfl := q04 ea
 (refine q1i hA fun h1 j dz h2 hz1 => ?_; (try clear hA))
 (refine q07 (S1.acc h1 h2 hz1.fix) fun its' ep I z1z => ?_; (try clear z1z))
 have X1 : (Mine.hd.heap_1 c.w.params).In s1.heap := by (refine q07 S1 fun m' led' F _ => ?_; (try clear S1)); exact ok.X.keeps F.keep
 (refine q2n hz1 fun hs1 ts tz z1z => ?_; (try clear hz1); subst z1z)
 refine q2q X1 I ?k3 ?k4 ?k5 PySem.F.type_list_append rfl ?_
 case k3 => k_is
 case k4 => k_is
 case k5 => k_is
 refine PyProof.Rows.callWith_method1 (args_cons (hb _ _ s1 S1 fun vb l2 s3 eb S3 => args_nil ?_) hs) hs rfl
 (refine E_ea (hR _ _ eb) fun i2 z1z hr => ?_; obtain ⟨g1, j2, dz2, g2, g3⟩ := z1z)
 (refine q07 (S3.acc g1 g2 g3.fix) fun its2 ep2 I2 hi2 => ?_)
 (refine q00 S3 fun m' led' F hm' N hl hn hg => ?_; (try clear S3))
 (refine E_ea (q03 hl g1) fun o' h4 h5 => ?_)
 obtain rfl : o' = accO its2 ep2 dx := Option.some.inj ((N _ (List.mem_of_getElem? h4)).1.symm.trans I2.at_)
 refine q25 (ok.X.keeps F.keep) I2 ?m1 F N (q1x h4 (by rw [q0e hl]; exact hn)) (by rw [<- List.length_map (f := eV), hi2]; exact Nat.lt_of_le_of_lt hz (by decide)) fun h' F' N' => h _ _ _ hr (SS.upd hm' hl hn hg g1 F' N' (q6y (by rw [List.map_append, hi2]; rfl)))
 k_is
theorem EvG.accCut {lw up : Option Expr} {lo hi : Option Int} {p2 : Pos} {i : Nat} (f : List Value -> List Value) (ok : c.OkG) (ha : Ev c m l a (.ref x)) (hA : AtA l x dx its sz i) (hl : EvP c m l lw lo) (hu : EvP c m l up hi) (hz : its.length <= 1000)
  (hp : ∀ vs : List Value, vs.length = its.length -> slicePick vs.toArray lo hi none = (f vs).toArray) (hf : ∀ vs : List Value, (f vs).map eV = f (vs.map eV)) : EvG c m l (.Subscript a (.Slice lw up none p2) pos) (NewO l (lsO (f its))) := by
 intro Q E s S h
 (refine q1i hA fun h1 j dz h2 hz1 => ?_; (try clear hA))
 refine Subscript_ (ha _ _ s S fun va s1 ea S1 => ?_)
 obtain rfl := q04 ea
 refine wpAny_Slice (hl.run S1 fun vl s2 pl S2 => hu.run S2 fun vu s3 pu S3 => wpAny_pure ?_)
 (refine q07 (S3.acc h1 h2 hz1.fix) fun its' ep I hi2 => ?_)
 (refine q00 S3 fun m' led' F hm' N hl' hn hg => ?_; (try clear S3))
 have hln : its'.length = its.length := by rw [<- hi2, List.length_map]
 refine qh1 F ok.X N I ?d1 ?d2 ?d3 pl pu (by rw [hln]; exact Nat.le_trans hz (by decide)) fun D h' F' N' l1 => ?_
 case d1 => k_is
 case d2 => k_is
 case d3 => k_is
 refine h _ _ _ ⟨D, rfl, rfl⟩ ⟨m', _, F', hm', N', ?_, q0d hl' hn l1, hg⟩
 rw [List.map_cons, hl', eP, hp _ hln, q18 (hf its'), hi2]
theorem Bd.accPut {R : Value -> Led -> Prop} {o : Expr} {lw up : Option Expr} {lo hi : Option Int} {p2 p3 : Pos} (ok : c.OkG) (he : EvG c m l e R)
  (hr : ∀ v l2, R v l2 -> ∃ (B : Addr) (k i b9 e9 : Nat) (vs : List Value), v = .ref B /\ l2[k]? = some (B, lsO vs) /\ Ev c m l2 o (.ref x) /\ AtA l2 x dx its sz i /\ EvP c m l2 lw lo /\ EvP c m l2 up hi /\ sliceBounds lo hi none its.length = ((b9 : Int), (e9 : Int), 1) /\ its.length + vs.length <= 1000 /\
   Bd c m (l2.set i (x, aO (its.take b9 ++ vs ++ its.drop (max b9 e9)) dx)) rest P)
  (hw : swapsWith e (some (o.Subscript (.Slice lw up none p2) p3)) pos.line c.env = pure false) : Bd c m l (.Assign [.Subscript o (.Slice lw up none p2) p3] e pos :: rest) P := by
 intro Q E s hE S k
 refine wpAny_execs_cons (wpAny_Assign_Subscript (he _ _ s S fun v1 l2 s1 e1 S1 => ?_) hw)
 (refine q3r (hr _ _ e1) fun B kk i b9 e9 vs hv hB ho z1z hl hu hb hz hbd => ?_; obtain ⟨h1, j, dz, h2, hz1⟩ := z1z)
 obtain rfl := q04 hv
 refine ho _ _ s1 S1 fun v2 s2 e2 S2 => ?_
 obtain rfl := q04 e2
 refine wpAny_Slice (hl.run S2 fun vl s3 pl S3 => hu.run S3 fun vu s4 pu S4 => wpAny_pure ?_)
 (refine q07 (S4.acc h1 h2 hz1.fix) fun its' ep I hi2 => ?_)
 (refine q00 S4 fun m' led' F hm' N hl' hn hg => ?_; (try clear S4))
 have hln : its'.length = its.length := by rw [<- hi2, List.length_map]
 (refine E_ea (q03 hl' hB) fun oB g1 g2 => ?_)
 (refine q07 (q0b g2) fun vs' kB z1z g3 => ?_; subst z1z)
 (refine E_ea (q03 hl' h1) fun o' h4 h5 => ?_)
 obtain rfl : o' = accO its' ep dx := Option.some.inj ((N _ (List.mem_of_getElem? h4)).1.symm.trans I.at_)
 refine qhd F ok.X N I ?d1 ?d2 ?d3 pl pu (N _ (List.mem_of_getElem? g1)).1 (by rw [hln]; exact hb) (by rw [hln, show vs'.length = vs.length by rw [<- g3, List.length_map]]; exact Nat.le_trans hz (by decide)) (q1b h4 (by rw [q0e hl']; exact hn)) fun ep' h' F' N' => ?_
 case d1 => k_is
 case d2 => k_is
 case d3 => k_is
 refine hbd _ _ _ hE (SS.upd hm' hl' hn hg h1 F' N' (q6y ?_)) k
 rw [List.map_append, List.map_append, List.map_take, List.map_drop, hi2, g3]
theorem Bd.accSz {n : Int} {i j : Nat} {o : Expr} {dz : Obj} {p3 : Pos} (ok : c.OkG) (he : Ev c m l e (vI n)) (ho : Ev c m l o (.ref x)) (h1 : l[i]? = some (x, aO its dx)) (h2 : l[j]? = some (dx, dz)) (hz : DzO sz dz) (hr : ∀ dz', DzO n dz' -> Bd c m (l.set j (dx, dz')) rest P)
  (hw : swapsWith e (some (.Attribute o q0o p3)) pos.line c.env = pure false) : Bd c m l (.Assign [.Attribute o q0o p3] e pos :: rest) P := by
 intro Q E s hE S k
 refine wpAny_execs_cons (plainObj_wpAny_Assign_Attribute (he _ _ s S fun v1 s1 e1 S1 => ho _ _ s1 S1 fun v2 s2 e2 S2 => ?_) hw)
 (refine E_e (q0a e1) fun t z1z => ?_; subst z1z)
 obtain rfl := q04 e2
 (refine q07 (S2.acc h1 h2 hz.fix) fun its' ep I hi2 => ?_)
 have gz := S2.obj h2 hz.fix
 (refine q00 S2 fun m' led' F hm' N hl' hn hg => ?_; (try clear S2))
 (refine E_ea (q03 hl' h2) fun o' h4 h5 => ?_)
 obtain rfl : o' = dz := Option.some.inj ((N _ (List.mem_of_getElem? h4)).1.symm.trans gz)
 (refine q2n hz fun hs1 ts tz z1z => ?_; (try clear hz); subst z1z)
 refine q6n F ok.X N I rfl ?c1 (qe6 _) ?c3 ?c4 rfl rfl (q1x h4 (by rw [q0e hl']; exact hn)) (Nat.le_of_ble_eq_true rfl) fun h' F' N' => ?_
 case c1 => k_is
 case c3 => k_is
 case c4 => k_is
 exact hr _ ⟨hs1, ts, t, rfl⟩ _ _ _ hE (SS.upd hm' hl' hn hg h2 F' N' rfl) k
end
end
example : True := by
 k_with_none
 k_with "omega" => (first | assumption | exact Nat.le_refl _ | exact Nat.ne_of_lt (by assumption) | exact Nat.ne_of_gt (by assumption) | exact Nat.le_of_lt (by assumption) | lia)
 k_with "w boot" => (first | rfl | boot_by_name | decide)
 k_with "w ev" => (first
 | ((with_reducible show Ev _ _ _ (Expr.Constant (Const.int _) _ _) _); exact Ev.int)
 | ((with_reducible show Ev _ _ _ (Expr.Name _ _) _); first
  | exact Ev.name (by assumption) (by rfl) (by rfl) (by first | rfl | assumption)
  | exact Ev.free (by assumption) (by rfl) (by rfl) (by rfl) (by rfl) (by assumption) (by rfl)
  | exact Ev.cellv (by assumption) (by rfl) (by rfl) (by rfl) (by assumption) (by rfl)
  | exact Ev.builtin (by assumption) (by rfl) (by rfl) (by k_is) (by wtm_at "boot") (by decide) (by rfl)
  | exact Ev.globalE (by assumption) (by rfl) (by rfl) (by k_is) (by rfl))
 | ((with_reducible show Ev _ _ _ (Expr.BinOp _ Operator.Add _ _) _); exact Ev.add (by wtm_at "ev") (by wtm_at "ev"))
 | ((with_reducible show Ev _ _ _ (Expr.BinOp _ Operator.Sub _ _) _); exact Ev.sub (by wtm_at "ev") (by wtm_at "ev"))
 | ((with_reducible show Ev _ _ _ (Expr.BinOp _ Operator.Mod _ _) _); exact Ev.mod (by wtm_at "ev") (by wtm_at "ev") (by decide))
 | ((with_reducible show Ev _ _ _ (Expr.BinOp _ Operator.FloorDiv _ _) _); exact Ev.fdiv (by wtm_at "ev") (by wtm_at "ev") (by decide) (by exact PyProof.noPylong_of_log2 (by decide +kernel)))
 | ((with_reducible show Ev _ _ _ (Expr.BinOp _ Operator.RShift _ _) _); exact Ev.shr (by wtm_at "ev") (by wtm_at "ev") (by first | decide | omega))
 | ((with_reducible show Ev _ _ _ (Expr.BinOp _ Operator.LShift _ _) _); exact Ev.shl (by wtm_at "ev") (by wtm_at "ev") (by first | decide | omega) (by wtm_at "bits"))
 | ((with_reducible show Ev _ _ _ (Expr.BinOp _ Operator.BitXor _ _) _); exact Ev.xor (by wtm_at "ev") (by wtm_at "ev"))
 | ((with_reducible show Ev _ _ _ (Expr.BinOp _ Operator.Mult _ _) _); exact Ev.mul (by wtm_at "ev") (by wtm_at "ev") (by wtm_at "mul"))
 | ((with_reducible show Ev _ _ _ (Expr.UnaryOp UnaryOp.USub _ _) _); exact Ev.neg (by wtm_at "ev"))
 | ((with_reducible show Ev _ _ _ (Expr.Compare _ [CmpOp.Lt] _ _) _); exact Ev.lt (by wtm_at "ev") (by wtm_at "ev") (by rfl))
 | ((with_reducible show Ev _ _ _ (Expr.Subscript _ _ _) _); exact Ev.item (by wtm_at "ev") (by wtm_at "ev") (by wtm_at "at") (by omega) (by omega) (by assumption) (by intro u; rfl))
 | ((with_reducible show Ev _ _ _ (Expr.Call _ _ _ _) _); exact Ev.len (by wtm_at "ev") (by wtm_at "ev") (by wtm_at "at") (by wtm_at "sz") (by rfl) (by rfl)))
 k_with "w tb" => (first
 | ((with_reducible show Tb _ _ _ (Expr.Compare _ [CmpOp.Lt] _ _) _); exact Tb.lt (by wtm_at "ev") (by wtm_at "ev") (by rfl))
 | ((with_reducible show Tb _ _ _ (Expr.Compare _ [CmpOp.LtE] _ _) _); exact Tb.le (by wtm_at "ev") (by wtm_at "ev") (by rfl))
 | ((with_reducible show Tb _ _ _ (Expr.Compare _ [CmpOp.Eq] _ _) _); exact Tb.eq (by wtm_at "ev") (by wtm_at "ev") (by rfl))
 | ((with_reducible show Tb _ _ _ (Expr.Compare _ [CmpOp.Gt] _ _) _); exact Tb.gt (by wtm_at "ev") (by wtm_at "ev") (by rfl))
 | ((with_reducible show Tb _ _ _ (Expr.Compare _ [CmpOp.In] _ _) _); exact Tb.inn (by wtm_at "ev") (by wtm_at "eva") (by rfl) (by decide) (by rfl))
 | ((with_reducible show Tb _ _ _ (Expr.UnaryOp UnaryOp.Not _ _) _); exact Tb.not (by wtm_at "tb"))
 | ((with_reducible show Tb _ _ _ (Expr.BoolOp BoolOp.And _ _) _); exact Tb.and (by wtm_at "tba"))
 | ((with_reducible show Tb _ _ _ (Expr.Name _ _) _); exact Tb.bool (by wtm_at "ev") (by rfl)))
 k_with "w tba" => (first
 | ((with_reducible show TbA _ _ _ (_ :: _) _); exact TbA.cons (by wtm_at "tb") (by wtm_at "tba"))
 | ((with_reducible show TbA _ _ _ [] _); exact TbA.nil))
 k_with "w eva" => (first
 | ((with_reducible show EvA _ _ _ [] _); exact EvA.nil)
 | ((with_reducible show EvA _ _ _ (_ :: _) _); exact EvA.cons (by rfl) (by wtm_at "ev") (by wtm_at "eva")))
 k_with "w at" => (first | with_reducible assumption | with_reducible exact q3e | with_reducible exact q06 (by wtm_at "at") | with_reducible exact q0f (by wtm_at "at"))
 k_with "w sz" => ((simp only [List.length_map, List.length_replicate]; omega))
 k_with "w bits" => (exact kbm_shl (m := 64) (intBits_le_64 (by omega) (by omega)) (by omega) (by decide))
 k_with "w mul" => (first | exact IntMulOk.of_left (intBits_le_64 (by omega) (by omega)) | exact IntMulOk.of_right (intBits_le_64 (by omega) (by omega)))
 trivial
noncomputable def valD (ns : List Int) : Nat -> Nat -> Int
 | 0, _ => 0
 | 1, L => ns.getD L 0
 | k + 2, L => valD ns (k + 1) (L + 1) * 128 + ns.getD L 0
theorem q5i {ns : List Int} (hy : ∀ y ∈ ns, 0 <= y /\ y < 262144) (L : Nat) : 0 <= ns.getD L 0 /\ ns.getD L 0 < 262144 := by
 rw [List.getD_eq_getElem?_getD]
 cases h : ns[L]? with
 | none => exact ⟨Int.le_refl _, by decide⟩
 | some y => exact hy y (List.mem_of_getElem? h)
theorem qfp {ns : List Int} (hy : ∀ y ∈ ns, 0 <= y /\ y < 262144) (k L : Nat) (hk : k <= 2) : 0 <= valD ns k L /\ valD ns k L < 100000000 := by
 match k, hk with
 | 0, _ => exact ⟨Int.le_refl _, by show (0 : Int) < _; decide⟩
 | 1, _ => exact ⟨(q5i hy L).1, Int.lt_trans (q5i hy L).2 (by decide)⟩
 | 2, _ =>
  have h1 := q5i hy L
  have h2 := q5i hy (L + 1)
  show 0 <= ns.getD (L + 1) 0 * 128 + ns.getD L 0 /\ ns.getD (L + 1) 0 * 128 + ns.getD L 0 < 100000000
  exact o395 h1 h2
theorem qgx {nm nm2 ql : Str} {ps : Arguments} {bd : List Stmt} {sc : Scope} {po : Pos} (hdef : subAt 0 (qe4 9) = .FunctionDef nm ps bd [] none [] sc none nm2 po)
  {f c' c1 c2 c3 D : Addr} {doc pm ctv : Value} {oc : Obj} {cvs : Array Value} {tq : Tok} {i j iD : Nat} (hcd : oc.data = .fields cvs) (hcq : cvs[1]? = some (.str ql tq)) :
  ∀ (k : Nat) (c : Cx) (m : Fm) (led : Led) (ns : List Int) (L : Nat), c.Ok -> c.dp + k + 2 < recursionLimit -> led[i]? = some (f, fnMade nm ql ps bd sc [(Str.ofString "n", c2), (Str.ofString "inner", c3), (Str.ofString "digits", c1)] doc pm c' ctv) -> led[j]? = some (c', oc) →
   CellV led c2 (vI 7) -> CellV led c3 (.ref f) -> CellV led c1 (.ref D) -> led[iD]? = some (D, lsI ns) -> 1 <= k -> k <= 3 -> L + k <= ns.length -> ns.length <= 3 -> (∀ y ∈ ns, 0 <= y /\ y < 262144) →
   Cl c m led (.ref f) [vI L, vI (L + k)] (Same (vI (valD ns k L)) led) := by
 conv at hdef => lhs; whnf
 injection hdef with e1 e2 e3 e4 e5 e6 e7 e8 e9 e10
 subst e1 e2 e3 e7 e9 e10
 intro k
 induction k using Nat.strongRecOn with
 | ind k ih =>
  intro c m led ns L ok hdp hf hc h1 h3 h2 hD hk1 hk3 hL hl3 hy
  refine' Cl.nest [Str.ofString "L", Str.ofString "R"] ok hf hc hcd hcq ?hroom ?hbind ?hloc ?z1 ?z2 ?z3 ?z4 ?h
  case hroom => exact o196 hdp
  case hbind =>
   intro s vs' hl
   (refine E_ee (ex2 hl) fun v1 v2 z1z => ?_; subst z1z)
   exact BindsTo.of_eq rfl
  case hloc => rfl
  case z1 => rfl
  case z2 => rfl
  case z3 => rfl
  case z4 => decide
  case h =>
  intro L' g okc hlt
  have hit : (ns.map vI)[((L : Nat) : Int).toNat]? = some (vI (ns.getD L 0)) := by
   rw [List.getElem?_map, show ((L : Nat) : Int).toNat = L from rfl, List.getElem?_eq_getElem (by exact o212 hk1 hL), List.getD_eq_getElem?_getD, List.getElem?_eq_getElem (by exact o212 hk1 hL)]; rfl
  refine Bd.ite (by wtm_at "tb") (fun hb => ?_) (fun hb => ?_)
  ·have hk0 : k = 1 := by have := beq_iff_eq.mp hb; omega
   subst hk0
   refine Bd.ret (Ev.g (by wtm_at "ev")) ?_
   (intro v; intro l; intro s; intro z1y; refine E_a z1y fun hv z2z => ?_; (try clear z1y); subst z2z; intro S)
   exact ⟨_, _, S, hv, rfl⟩
  ·(refine E_e (⟨k - 2, by rw [beq_eq_false_iff_ne] at hb; exact o122 hk1 hb⟩ : ∃ q, k = q + 2) fun q z1z => ?_; subst z1z)
   have e1 : ((L : Int) + (L + ((q + 2 : Nat) : Int))).fdiv (2 ^ Int.toNat 1) = (L : Int) + 1 := by
    rw [show (2 : Int) ^ Int.toNat 1 = 2 from rfl, Int.fdiv_eq_ediv_of_nonneg _ (by decide)]; exact o117 hk3
   have e2 : ((L : Int) + 1 - L) * 7 = 7 := by rw [show (L : Int) + 1 - L = 1 by exact o69, Int.one_mul]
   have hb1 := qfp hy (q + 1) (L + 1) (by exact Nat.lt_of_succ_lt_succ hk3)
   refine Bd.fall (Bd.assign okc (Ev.to (by wtm_at "ev") (congrArg vI e1)) ?_ rfl rfl)
   refine Bd.assign okc (Ev.to (by wtm_at "ev") (congrArg vI e2)) ?_ rfl rfl
   have hcl := fun m1 => ih (q + 1) (by exact Nat.lt_add_one _) _ m1 led ns (L + 1) okc (by show c.dp + 1 + (q + 1) + 2 < _; exact o194 hdp) hf hc h1 h3 h2 hD (by exact Nat.succ_pos _) (by exact Nat.lt_of_succ_lt hk3) (by exact o201 hL) hl3 hy
   rw [show ((L + 1 : Nat) : Int) = (L : Int) + 1 by exact rfl, show (L : Int) + 1 + ((q + 1 : Nat) : Int) = L + ((q + 2 : Nat) : Int) by exact o181] at hcl
   have hcl2 := fun m1 => ih 1 (by exact Nat.le_add_left _ _) _ m1 led ns L okc (by show c.dp + 1 + 1 + 2 < _; exact o195 hdp) hf hc h1 h3 h2 hD (by exact Nat.lt_add_one _) (by exact Nat.succ_pos _) (by exact Nat.lt_of_le_of_lt (Nat.le_add_right _ _) hL) hl3 hy
   refine Bd.ret (Ev.g (Ev.add (Ev.shl (EvG.ev (EvG.callF (by wtm_at "ev") hf (by wtm_at "eva") (hcl _) rfl rfl rfl)) (by wtm_at "ev") (by decide) (kbm_shl (m := 64) (intBits_le_64 (by exact o299 hb1) (by exact o300 hb1)) (by decide) (by decide))) (EvG.ev (EvG.callF (by wtm_at "ev") hf (by wtm_at "eva") (hcl2 _) rfl rfl rfl)))) ?_
   (intro v; intro l; intro s; intro z1y; refine E_a z1y fun hv z2z => ?_; (try clear z1y); subst z2z; intro S)
   exact ⟨_, _, S, hv, rfl⟩
theorem d2iH {c : Cx} {m : Fm} {led T : Led} {iD : Nat} {D : Addr} {ns : List Int} (ok : c.Ok) (hT : TabL 68 qd2 60 4 T) (hD : led[iD]? = some (D, lsI ns)) (hl : 1 <= ns.length /\ ns.length <= 3) (hy : ∀ y ∈ ns, 0 <= y /\ y < 262144) (hd : c.dp + 10 < recursionLimit) :
  Cl c m (T ++ led) (.ref 73) [.ref D, vI 7] (fun v l => ∃ T', v = vI (valD ns ns.length 0) /\ TabL 68 qd2 60 4 T' /\ l = T' ++ led) := by
 refine' Cl.dfnC [Str.ofString "digits", Str.ofString "n"] ok ?ho ?hcd ?hroom ?hbind ?hkind ?hnd ?hca ?z1 ?z2 ?z3 ?h
 case ho => k_is
 case hcd => k_is
 case hroom => exact Nat.lt_of_le_of_lt (Nat.le_add_right _ _) hd
 case hbind =>
  intro s vs' hl
  (refine E_ee (ex2 hl) fun v1 v2 z1z => ?_; subst z1z)
  exact BindsTo.of_eq rfl
 case hkind => rfl
 case hnd => decide
 case hca =>
  intro L'
  show ([L' + 1 + 1 + 1, L' + 1 + 1, L' + 1] : List Nat).Nodup /\ ∀ b ∈ ([L' + 1 + 1 + 1, L' + 1 + 1, L' + 1] : List Nat), L' < b
  simp only [List.nodup_cons, List.mem_cons, List.not_mem_nil, or_false, not_or, List.nodup_nil, and_true, forall_eq_or_imp, forall_eq, not_false_eq_true]
  exact o76
 case z1 => rfl
 case z2 => rfl
 case z3 => rfl
 case h =>
 intro L' g cells okc hlt hce
 have hce' : q4p _ [(Str.ofString "inner", L' + 1 + 1 + 1), (Str.ofString "n", L' + 1 + 1), (Str.ofString "digits", L' + 1)] cells := hce
 clear hce
 rcases cells with _ | ⟨⟨a3, o3⟩, _ | ⟨⟨a2, o2⟩, _ | ⟨⟨a1, o1⟩, _ | ⟨p, r⟩⟩⟩⟩
 ·exact hce'.elim
 ·exact hce'.2.2.elim
 ·exact hce'.2.2.2.2.elim
 case cons.cons.cons.cons => exact hce'.2.2.2.2.2.2.elim
 (refine q5p hce' fun z1z z2z z3z z4z z5z z6z z7z => ?_; (try clear hce'); subst z1z; obtain ⟨w3, d3, -⟩ := z2z; subst z3z; obtain ⟨w2, d2, e2⟩ := z4z; subst z5z; obtain ⟨w1, d1, e1⟩ := z6z; (try clear z7z))
 (refine E_ea (Option.map_eq_some_iff.mp (show w1.map eV = some (.ref D) from e1)) fun v1 z1z ev1 => ?_; subst z1z)
 (refine E_ea (Option.map_eq_some_iff.mp (show w2.map eV = some (vI 7) from e2)) fun v2 z1z ev2 => ?_; subst z1z)
 refine Bd.fdefT (pre := (L' + 1 + 1 + 1, o3) :: (L' + 1 + 1, o2) :: [(L' + 1, o1)]) (T := T) (post := led) (ic := 0) okc hT rfl rfl rfl rfl (fun _ h _ => h) (fun c' => by kn_triples) rfl (fun c' => rfl) rfl ⟨rfl, rfl⟩ rfl rfl rfl rfl d3 (fun f c' oc doc pm ctv o3' hC ho3 => ?_)
 change Bd _ _ ((f, _) :: (L' + 1 + 1 + 1, o3') :: (L' + 1 + 1, o2) :: (L' + 1, o1) :: (68, _) :: (c', oc) :: led) _ _
 (refine E_ea ho3 fun v3 g3 f3 => ?_; (try clear ho3))
 (refine q07 hC fun cvs tq hcd hcq => ?_; (try clear hC))
 generalize hLD : ((f, _) :: (L' + 1 + 1 + 1, o3') :: (L' + 1 + 1, o2) :: (L' + 1, o1) :: (68, _) :: (c', oc) :: led : Led) = LD
 have k1 : CellV LD (L' + 1) (.ref D) := by rw [<- hLD]; exact ⟨3, o1, v1, rfl, d1, ev1⟩
 have k2 : CellV LD (L' + 1 + 1) (vI 7) := by rw [<- hLD]; exact ⟨2, o2, v2, rfl, d2, ev2⟩
 have k3 : CellV LD (L' + 1 + 1 + 1) (.ref f) := by rw [<- hLD]; exact ⟨1, o3', v3, rfl, g3, f3⟩
 have kf := (congrArg (fun l : Led => l[0]?) hLD).symm
 have kc : LD[5]? = some (c', oc) := by rw [<- hLD]; rfl
 have kD : LD[iD + 6]? = some (D, lsI ns) := by rw [<- hLD]; exact hD
 have hcl := fun m1 => qgx rfl hcd hcq ns.length _ m1 LD ns 0 okc (by show c.dp + 1 + ns.length + 2 < _; exact o198 hl hd) kf kc k2 k3 k1 kD hl.1 hl.2 (by exact o86) hl.2 hy
 refine Bd.ret (EvG.ifx (R := Same (vI (valD ns ns.length 0)) LD) (Tb.lst (by wtm_at "ev") kD (by exact o17 hl) rfl) (fun h => ?_) (fun h => absurd (of_decide_eq_false h) (by exact o18 hl))) ?_
 ·exact EvG.callF (by wtm_at "ev") kf (by wtm_at "eva") (Eq.mpr (by rw [List.length_map, show ((0 : Nat) : Int) + (ns.length : Nat) = (ns.length : Nat) by exact Int.zero_add _]; rfl) (hcl _)) rfl rfl rfl
 ·(intro v; intro l; intro s; intro z1y; refine E_a z1y fun hv hl9 => ?_; (try clear z1y); intro S)
  rw [hl9, <- hLD] at S
  exact ⟨_, _, S.pick _ (.cons _ (.cons _ (.cons _ (.cons _ (List.Sublist.refl _))))) (List.Perm.refl _), [(68, tabObj (q5s 60 4 c')), (c', oc)], hv, .inr ⟨c', oc, rfl, cvs, tq, hcd, hcq⟩, rfl⟩
section
section
variable {c : Cx} {m : Fm} {l ex : Led} {F : FX} {σ : FZ}
theorem q8p {a b : Led} {i : Nat} {p : Addr × Obj} : (a ++ b).set (a.length + i) p = a ++ b.set i p := by
 rw [List.set_append_right _ _ (Nat.le_add_right _ _), Nat.add_sub_cancel_left]
theorem FP.out {d : Addr × Obj} {dz : Obj} {pa pb : Array Value} : (d :: FP F σ dz pa pb ex).Perm (FP F σ dz pa pb (d :: ex)) := List.perm_append_comm_assoc [_] [_, _, _, _, _, _, _] ex
theorem qfq {f p : Str} (ok : c.OkG) (hl : FL F σ ex l) (hz : σ.its.length <= 1000) (hd : c.dp + 5 < recursionLimit) :
  ClK c m l (.ref 193) [.ref F.a1, .str f 0, .str p 0] (fun v l' => v = .none /\ ∃ D, FL F ⟨σ.its ++ [.ref D], σ.lines, σ.sz⟩ ((D, tpO [.str f 0, .str p 0]) :: ex) l') := by
 (refine q09 hl fun dz pa pb h1 h2 h3 z1z => ?_; (try clear hl); subst z1z)
 refine' ClK.dfnD [Str.ofString "self", Str.ofString "fws", Str.ofString "string"] [] ok ?ho ?hcd ?hroom ?hbind ?hloc ?z1 ?z2 ?z3 ?z4 ?h
 case ho => k_is
 case hcd => k_is
 case hroom => exact room (j := 0) hd (by decide)
 case hbind =>
  intro s vs' _ hl
  (refine q2n (ex3 hl) fun v1 v2 v3 z1z => ?_; subst z1z)
  exact BindsTo.of_eq rfl
 case hloc => rfl
 case z1 => rfl
 case z2 => rfl
 case z3 => rfl
 case z4 => decide
 case h =>
 intro L' g okc hlt
 refine Bd.expr (EvG.accApp (i := 2) (R := NewO (FP F σ dz pa pb ex) (tpO [.str f 0, .str p 0])) (R' := fun v l' => v = .none /\ ∃ D, l' = (D, tpO [.str f 0, .str p 0]) :: FP F ⟨σ.its ++ [.ref D], σ.lines, σ.sz⟩ dz pa pb ex) okc.toOkG (by wtm_at "ev") ⟨rfl, 3, dz, rfl, h1⟩ (EvG.tup (vs := [.str f 0, .str p 0]) (by wtm_at "eva") (show 2 <= _ by decide)) hz ?_ rfl rfl) (fun v l hv => ?_) rfl rfl
 ·(intro _; intro _; intro z1y; refine E_ea z1y fun D z2z z3z => ?_; (try clear z1y); subst z2z; subst z3z)
  exact ⟨3, ⟨rfl, 4, dz, rfl, h1⟩, rfl, D, rfl⟩
 (refine E_ae hv fun z1z D z2z => ?_; (try clear hv); subst z1z; subst z2z)
 exact Bd.nil fun s S => ⟨_, _, S.perm FP.out, rfl, D, dz, pa, pb, h1, h2, h3, rfl⟩
theorem qdm {i : Nat} (ok : c.OkG) (hl : FL F σ ex l) (hz : σ.its.length <= 900) (hi : i <= σ.its.length) (hd : c.dp + 5 < recursionLimit) :
  Cl c m l (.ref 201) [.ref F.a1, vI i] (fun v l' => ∃ D, v = .ref D /\ FL F ⟨σ.its.take i, σ.lines, σ.sz⟩ ((D, lsO (σ.its.drop i)) :: ex) l') := by
 (refine q09 hl fun dz pa pb h1 h2 h3 z1z => ?_; (try clear hl); subst z1z)
 refine' Cl.dfnD [Str.ofString "self", Str.ofString "i"] [] ok ?ho ?hcd ?hroom ?hbind ?hloc ?z1 ?z2 ?z3 ?z4 ?h
 case ho => k_is
 case hcd => k_is
 case hroom => exact room (j := 0) hd (by decide)
 case hbind =>
  intro s vs' X hl
  (refine E_ee (ex2 hl) fun v1 v2 z1z => ?_; subst z1z)
  exact binds_K X rfl (by k_is) rfl rfl rfl
 case hloc => rfl
 case z1 => rfl
 case z2 => rfl
 case z3 => rfl
 case z4 => decide
 case h =>
 intro L' g okc hlt
 refine Bd.assignG okc (EvG.accCut (i := 2) (lo := some (i : Int)) (hi := none) (List.drop i) okc.toOkG (by wtm_at "ev") ⟨rfl, 3, dz, rfl, h1⟩ (show Ev _ _ _ _ (vI i) by wtm_at "ev") trivial (Nat.le_trans hz (by decide)) (fun vs h => by rw [slicePick_from vs.toArray i (by simpa [h] using hi)]) fun _ => List.map_drop) (fun v l hv => ?_) rfl rfl
 (refine E_ea hv fun D z1z z2z => ?_; (try clear hv); subst z1z; subst z2z)
 refine Bd.accPut (x := F.a1) (dx := F.dx) (its := σ.its) (sz := σ.sz) (lo := some (i : Int)) (hi := none) (R := NewO _ (lsO [])) okc.toOkG (EvG.list EvA.nil (Nat.zero_le _)) ?_ rfl
 (intro _; intro _; intro z1y; refine E_ea z1y fun B z2z z3z => ?_; (try clear z1y); subst z2z; subst z3z)
 refine ⟨B, 0, 4, i, σ.its.length, [], rfl, rfl, by wtm_at "ev", ⟨rfl, 5, dz, rfl, h1⟩, (show Ev _ _ _ _ (vI i) by wtm_at "ev"), trivial, qfb i _ hi, Nat.le_trans hz (by decide), ?_⟩
 refine Bd.ret (Ev.g (by wtm_at "ev")) ?_
 (intro v; intro l; intro s; intro z1y; refine E_a z1y fun hv z2z => ?_; (try clear z1y); subst z2z; intro S)
 refine ⟨_, _, S.pick ((D, lsO (σ.its.drop i)) :: FP F ⟨σ.its.take i, σ.lines, σ.sz⟩ dz pa pb ex) ?_ FP.out, D, hv, dz, pa, pb, h1, h2, h3, rfl⟩
 rw [List.append_nil, Nat.max_eq_right hi, List.drop_of_length_le (Nat.le_refl _), List.append_nil]
 exact .cons _ (.refl _)
theorem Tb.isNone {a : Expr} {k : Nat} {pos p2 : Pos} {v : Value} {b : Bool} {led : Led} (ha : Ev c m led a v) (hv : (v = .none /\ b = true) ∨ (∃ r, v = .ref r) /\ b = false) (hm : behindInMarks .Is (.Constant .none k p2) = false) : Tb c m led (.Compare a [.Is] [.Constant .none k p2] pos) b := by
 intro Q E s S h
 refine wpAny_isTrue_Compare1 (ha _ _ s S fun va s1 ea S1 => Constant_none (is_none_gen (wpAny_truthy_bool ?_))) hm
 rcases hv with ⟨rfl, rfl⟩ | ⟨⟨r, rfl⟩, rfl⟩
 ·obtain rfl : va = .none := by cases va <;> first | rfl | cases ea
  exact h _ S1
 ·obtain rfl := q04 ea
  exact h _ S1
theorem qdo {vs : List Value} {args : List Value} {j : Nat} {B : Addr} (ok : c.OkG) (hl : FL F σ ex l) (hz : σ.its.length + vs.length <= 900) (ha : (args = [.ref F.a1] /\ vs = []) ∨ (args = [.ref F.a1, .ref B] /\ ex[j]? = some (B, lsO vs))) (hd : c.dp + 5 < recursionLimit) :
  Cl c m l (.ref 231) args (fun v l' => v = .none /\ FL F ⟨vs, σ.lines, 0⟩ ex l') := by
 (refine q09 hl fun dz pa pb h1 h2 h3 z1z => ?_; (try clear hl); subst z1z)
 (refine q07 (by
  rcases ha with ⟨rfl, rfl⟩ | ⟨rfl, h⟩
  ·exact ⟨[.none], .none, rfl, .inl ⟨rfl, rfl, rfl, rfl⟩⟩
  ·exact ⟨[], .ref B, rfl, .inr ⟨rfl, rfl, h⟩⟩ : ∃ (dv : List Value) (w0 : Value), args ++ dv = [.ref F.a1, w0] /\ ((dv = [.none] /\ args = [.ref F.a1] /\ w0 = .none /\ vs = []) ∨ (dv = [] /\ w0 = .ref B /\ ex[j]? = some (B, lsO vs)))) fun dv w0 hdv hw0 => ?_)
 refine' Cl.dfnD [Str.ofString "self", Str.ofString "startval"] dv ok ?ho ?hcd ?hroom ?hbind ?hloc ?z1 ?z2 ?z3 ?z4 ?h
 case ho => k_is
 case hcd => k_is
 case hroom => exact room (j := 0) hd (by decide)
 case hbind =>
  intro s vs' X hl
  rcases hw0 with ⟨rfl, rfl, -, -⟩ | ⟨rfl, -, -⟩
  ·(refine E_e (ex1 hl) fun v1 z1z => ?_; subst z1z)
   exact binds_K X rfl (by k_is) rfl rfl rfl
  ·have hln : args.length = 2 := by rw [List.append_nil] at hdv; rw [hdv]; rfl
   (refine E_ee (ex2 (hl.trans hln)) fun v1 v2 z1z => ?_; subst z1z)
   exact binds_K X rfl (by k_is) rfl rfl rfl
 case hloc => rfl
 case z1 => rfl
 case z2 => rfl
 case z3 => rfl
 case z4 => decide
 case h =>
 intro L' g okc hlt
 have hdv2 : args ++ dv.map eV = [.ref F.a1, w0] := by
  rcases hw0 with ⟨rfl, -⟩ | ⟨rfl, -⟩ <;> exact hdv
 rw [hdv2]
 refine Bd.iteJ (fun m2 l2 => ∃ (B2 : Addr) (j2 : Nat) (g2 : Led), m2 (Str.ofString "self") = some (.ref F.a1) /\ m2 (Str.ofString "startval") = some (.ref B2) /\ l2 = g2 ++ FP F σ dz pa pb ex /\ l2[j2]? = some (B2, lsO vs)) (Tb.isNone (b := w0 == .none) (by wtm_at "ev") ?hb rfl) (fun hb => ?_) (fun hb => ?_) ?_
 case hb =>
  rcases hw0 with ⟨-, -, rfl, -⟩ | ⟨-, rfl, -⟩
  ·exact .inl ⟨rfl, rfl⟩
  ·exact .inr ⟨⟨_, rfl⟩, rfl⟩
 ·rcases hw0 with ⟨-, -, rfl, rfl⟩ | ⟨-, rfl, -⟩
  ·refine Bd.assignG okc (EvG.list EvA.nil (Nat.zero_le _)) (fun v l hv => Bd.nil fun s S => ?_) rfl rfl
   (refine E_ea hv fun D z1z z2z => ?_; (try clear hv); subst z1z; subst z2z)
   exact ⟨rfl, _, _, ⟨D, 0, [(D, lsO [])], rfl, rfl, rfl, rfl⟩, S⟩
  ·cases hb
 ·rcases hw0 with ⟨-, -, rfl, -⟩ | ⟨-, rfl, hB⟩
  ·cases hb
  ·exact Bd.nil fun s S => ⟨rfl, _, _, ⟨B, j + 7, [], rfl, rfl, rfl, hB⟩, S⟩
 (intro m2; intro _; intro z1y; refine q09 z1y fun B2 j2 g2 hm1 hm2 z2z hB2 => ?_; (try clear z1y); subst z2z)
 refine Bd.accPut (x := F.a1) (dx := F.dx) (its := σ.its) (sz := σ.sz) (lo := none) (hi := none) (R := Same (.ref B2) _) okc.toOkG (Ev.g (Ev.name okc rfl rfl hm2)) ?_ rfl
 (intro _; intro _; intro z1y; refine E_a z1y fun z2z z3z => ?_; (try clear z1y); subst z2z; subst z3z)
 refine ⟨B2, j2, g2.length + 2, 0, σ.its.length, vs, rfl, hB2, Ev.name okc rfl rfl hm1, ⟨q0f rfl, g2.length + 3, dz, q0f rfl, h1⟩, trivial, trivial, qgr _, Nat.le_trans hz (by decide), ?_⟩
 rw [q8p, Nat.max_eq_right (Nat.zero_le _), List.drop_of_length_le (Nat.le_refl _), List.append_nil]
 change Bd _ _ (g2 ++ FP F ⟨vs, σ.lines, σ.sz⟩ dz pa pb ex) _ _
 refine Bd.accSz (x := F.a1) (dx := F.dx) (its := vs) (i := g2.length + 2) (j := g2.length + 3) okc.toOkG Ev.int (Ev.name okc rfl rfl hm1) (q0f rfl) (q0f rfl) h1 (fun dz' hdz => Bd.nil fun s S => ?_) rfl
 rw [q8p] at S
 exact ⟨_, _, S.drops, rfl, dz', pa, pb, hdz, h2, h3, rfl⟩
end
end
section
noncomputable def Cx.Bare (c : Cx) : Prop := ∃ o, c.gp = fun g _ o' => AllBare g /\ o' = o
theorem q33 {vs : List Value} {a : Addr} (h : vs.map eV = [.ref a]) : vs = [.ref a] := by
 (refine E_e (ex1 ((List.length_map (f := eV) ▸ congrArg List.length h : vs.length = 1))) fun v z1z => ?_; subst z1z)
 rw [q04 (List.cons.inj h).1]
noncomputable def tupP (p : Addr × Obj) : Bool := isTp p.2.cls
theorem q8k {l : Led} : ∀ p ∈ l.filter tupP, p.2.cls = .type "tuple" := by
 intro p hp
 have h : isTp p.2.cls = true := (List.mem_filter.mp hp).2
 generalize p.2.cls = v at h
 cases v <;> first | exact congrArg Value.type (beq_iff_eq.mp h) | cases h
theorem q4a {l led' : Led} (hl : led'.map eP = l) : ∀ {its its' : List Value} {chs : List (Str × Str)}, its'.map eV = its -> ChE l its chs -> Chunks (led'.filter tupP) its' chs
 | _, [], [], rfl, _ => trivial
 | _, [], _ :: _, rfl, x => x.elim
 | _, _ :: _, [], rfl, x => x.elim
 | _, v :: vs, (f, p) :: chs, rfl, x => by
  refine ⟨?_, q4a hl rfl x.2⟩
  (refine E_ea (x.1) fun t hv hm => ?_)
  obtain rfl := q04 hv
  rw [<- hl] at hm
  (refine E_ea (List.mem_map.mp hm) fun z1z h1 h2 => ?_; obtain ⟨t', o⟩ := z1z)
  obtain rfl : t' = t := congrArg Prod.fst h2
  (refine E_ea (q3d (congrArg Prod.snd h2 : eO o = _)) fun its z1z h4 => ?_; subst z1z)
  (refine E_ee (ex2 ((List.length_map (f := eV) ▸ congrArg List.length h4 : its.length = 2))) fun a b z1z => ?_; subst z1z)
  simp only [List.map_cons, List.map_nil, List.cons.injEq, and_true] at h4
  (refine E_e (q0i h4.1) fun t1 z1z => ?_; subst z1z)
  (refine E_e (q0i h4.2) fun t2 z1z => ?_; subst z1z)
  exact ⟨t', t1, t2, rfl, List.mem_filter.mpr ⟨h1, rfl⟩⟩
section
variable {c : Cx} {m : Fm} {l ex : Led} {F : FX} {σ : FZ}
theorem pcH (ok : c.OkG) (hl : FL F σ ex l) (hd : c.dp + 20 < recursionLimit) (hu : c.un + 200 < cLine) : Cl c m l (.ref 246) [.ref F.a1] (fun v l' => v = vI σ.its.length /\ l' = l) := by
 intro vs' Q E s S hv k
 obtain rfl := q33 hv
 (refine q09 hl fun dz pa pb z1z h2 h3 z2z => ?_; (try clear hl); obtain ⟨hs1, ts, tz, rfl⟩ := z1z; subst z2z)
 (refine q08 (ok.B) fun A₀ base B C1 C2 => ?_)
 (refine q0y (ok.T) fun p loose mean mg mb T => ?_)
 (refine q07 (S.acc (i := 2) (j := 3) rfl rfl rfl) fun its' ep I hi => ?_)
 (refine q00 S fun m' led' F' hm' N hl hn hg => ?_; (try clear S))
 (refine E_ea (q03 (i := 2) hl rfl) fun o1 g1 g2 => ?_)
 obtain rfl : o1 = _ := Option.some.inj ((N _ (List.mem_of_getElem? g1)).1.symm.trans I.at_)
 (refine E_ea (q03 (i := 3) hl rfl) fun o2 g3 g4 => ?_)
 obtain rfl := q0z g4 rfl
 refine qdw B F' ok.X N T ok.K (List.mem_of_getElem? g1) (List.mem_of_getElem? g3) hd hu fun h' tk' t' F2 N2 => k _ _ _ ⟨?_, rfl⟩ ⟨m', led', F2, hm', N2, hl, hn, hg⟩
 show Value.int _ 0 = _
 rw [<- hi, List.length_map]
theorem qgc {init : List Value} {v : Value} (ok : c.OkG) (hl : FL F σ ex l) (hi : σ.its = init ++ [v]) (hz : init.length <= 1000) (hd : c.dp + 30 < recursionLimit) (hu : c.un + 400 < cLine) : Cl c m l (.ref 209) [.ref F.a1] (fun v' l' => v' = v /\ FL F ⟨init, σ.lines, σ.sz⟩ ex l') := by
 intro vs' Q E s S hv k
 obtain rfl := q33 hv
 (refine q09 hl fun dz pa pb z1z h2 h3 z2z => ?_; (try clear hl); obtain ⟨hs1, ts, tz, rfl⟩ := z1z; subst z2z)
 (refine q08 (ok.B) fun A₀ base B C1 C2 => ?_)
 (refine q0y (ok.T) fun p loose mean mg mb T => ?_)
 (refine q07 (S.acc (i := 2) (j := 3) rfl rfl rfl) fun its' ep I hi' => ?_)
 (refine q00 S fun m' led' F' hm' N hl hn hg => ?_; (try clear S))
 (refine E_ea (q03 (i := 2) hl rfl) fun o1 g1 g2 => ?_)
 obtain rfl : o1 = _ := Option.some.inj ((N _ (List.mem_of_getElem? g1)).1.symm.trans I.at_)
 (refine E_ea (q03 (i := 3) hl rfl) fun o2 g3 g4 => ?_)
 obtain rfl := q0z g4 rfl
 rw [hi] at hi'
 (refine q08 (List.map_eq_append_iff.mp hi') fun in' vl z1z hi1 hi2 => ?_; subst z1z)
 (refine E_e (ex1 ((List.length_map (f := eV) ▸ congrArg List.length hi2 : vl.length = 1))) fun v' z1z => ?_; subst z1z)
 have hi3 : eV v' = v := (List.cons.inj hi2).1
 refine qgs B F' ok.X N T ok.K (q1b g1 (by rw [q0e hl]; exact hn)) (List.mem_of_getElem? g3) (by rw [<- List.length_map (f := eV), hi1]; exact Nat.lt_of_le_of_lt hz (by decide)) hd hu fun h' tk' F2 N2 => k _ _ _ ⟨hi3, _, pa, pb, ⟨hs1, ts, tz, rfl⟩, h2, h3, rfl⟩ (SS.upd (i := 2) (D := F.a1) hm' hl hn hg rfl F2 N2 (q6y hi1))
theorem qgo {its' its : List Value} (hi' : its'.map eV = its) (hi : its = []) : its' = [] := List.map_eq_nil_iff.mp (hi'.trans hi)
theorem qgz (ok : c.OkG) (hl : FL F σ ex l) (hi : σ.its = []) (hd : c.dp + 30 < recursionLimit) (hu : c.un + 400 < cLine) : Cl c m l (.ref 209) [.ref F.a1] (fun v' l' => ∃ D ex', v' = .ref D /\ (D, tpO [.str "" 0, .str "" 0]) ∈ l' /\ ex.Sublist ex' /\ FL F σ ex' l') := by
 intro vs' Q E s S hv k
 obtain rfl := q33 hv
 (refine q09 hl fun dz pa pb z1z h2 h3 z2z => ?_; (try clear hl); obtain ⟨hs1, ts, tz, rfl⟩ := z1z; subst z2z)
 (refine q08 (ok.B) fun A₀ base B C1 C2 => ?_)
 (refine q0y (ok.T) fun p loose mean mg mb T => ?_)
 (refine q07 (S.acc (i := 2) (j := 3) rfl rfl rfl) fun its' ep I hi' => ?_)
 (refine q00 S fun m' led' F' hm' N hl hn hg => ?_; (try clear S))
 (refine E_ea (q03 (i := 2) hl rfl) fun o1 g1 g2 => ?_)
 obtain rfl : o1 = _ := Option.some.inj ((N _ (List.mem_of_getElem? g1)).1.symm.trans I.at_)
 (refine E_ea (q03 (i := 3) hl rfl) fun o2 g3 g4 => ?_)
 obtain rfl := q0z g4 rfl
 obtain rfl : its' = [] := qgo hi' hi
 refine qg2 B F' ok.X N T ok.K (q1b g1 (by rw [q0e hl]; exact hn)) (List.mem_of_getElem? g3) hd hu fun h' tk' D t1 t2 F2 N2 => ?_
 have er : (led'.set 2 (F.a1, accO [] ep F.dx)).map eP = FP F σ (dictOf [⟨hs1, .str q0o ts, .int σ.sz tz⟩] 1) pa pb ex := by
  rw [q6d hl, q6y (vs := []) (vs' := []) rfl]; unfold FP; rw [hi]; rfl
 have eD : eP (D, tupO "" "" t1 t2) = (D, tpO [.str "" 0, .str "" 0]) := congrArg (Prod.mk D) (q1y (vs' := [.str "" t1, .str "" t2]) rfl)
 by_cases hD : D ∈ (FP F σ (dictOf [⟨hs1, .str q0o ts, .int σ.sz tz⟩] 1) pa pb ex).map (·.1)
 ·refine k _ _ _ ⟨D, ex, rfl, ?_, .refl _, _, pa, pb, ⟨hs1, ts, tz, rfl⟩, h2, h3, rfl⟩ ⟨m', _, F2, hm', fun p hp => N2 p (.tail _ hp), er, hn, hg⟩
  rw [<- er, List.map_map] at hD
  (refine E_ea (List.mem_map.mp hD) fun q hq e => ?_)
  have e1 := (N2 _ (.tail _ hq)).1
  rw [show q.1 = D from e] at e1
  have e2 := Option.some.inj ((N2 _ (.head _)).1.symm.trans e1)
  rw [<- er]
  refine List.mem_map.mpr ⟨q, hq, ?_⟩
  rw [<- eD, <- show q.1 = D from e]
  exact congrArg (fun o => eP (q.1, o)) e2.symm
 ·refine k _ _ _ ⟨D, (D, tpO [.str "" 0, .str "" 0]) :: ex, rfl, ?_, .cons _ (.refl _), _, pa, pb, ⟨hs1, ts, tz, rfl⟩, h2, h3, rfl⟩ (SS.perm (l := (D, tpO [.str "" 0, .str "" 0]) :: FP F σ (dictOf [⟨hs1, .str q0o ts, .int σ.sz tz⟩] 1) pa pb ex) ⟨m', _, F2, hm', N2, (by rw [List.map_cons, er, eD]), List.nodup_cons.mpr ⟨hD, hn⟩, hg⟩ FP.out)
  exact .tail _ (.tail _ (.tail _ (.tail _ (.tail _ (.tail _ (.tail _ (.head _)))))))
theorem lenH {chs : List (Str × Str)} (ok : c.OkG) (bare : c.Bare) (hl : FL F σ ex l) (hC : ChE l σ.its chs) (hz : σ.its.length <= 1000) (hsz : 0 <= σ.sz /\ σ.sz + csum chs < 1000000) (hd : c.dp + 20 < recursionLimit) (hu : c.un + 200 < cLine) :
  Cl c m l (.ref 216) [.ref F.a1] (fun v l' => v = vI (σ.sz + csum chs) /\ FL F σ ex l') := by
 intro vs' Q E s S hv k
 obtain rfl := q33 hv
 (refine q09 hl fun dz pa pb z1z h2 h3 z2z => ?_; (try clear hl); obtain ⟨hs1, ts, tz, rfl⟩ := z1z; subst z2z)
 (refine q08 (ok.B) fun A₀ base B C1 C2 => ?_)
 (refine q0y (ok.T) fun p loose mean mg mb T => ?_)
 (refine q07 (S.acc (i := 2) (j := 3) rfl rfl rfl) fun its' ep I hi => ?_)
 have gz := S.obj (i := 3) (a := F.dx) (o := dictOf [⟨hs1, .str q0o ts, .int σ.sz tz⟩] 1) rfl rfl
 (refine q00 S fun m' led' F' hm' N hl hn hg => ?_; (try clear S))
 (refine E_ea (q03 (i := 5) hl rfl) fun o5 g1 g2 => ?_)
 obtain rfl := q0z g2 rfl
 (refine E_e bare fun os ho => ?_; (try clear bare))
 rw [ho] at hg
 refine qem (att := led'.filter tupP) B F' ok.X N (q1b g1 (by rw [q0e hl]; exact hn)) T ok.K I.at_ gz (fun p hp => (N p (List.mem_filter.mp hp).1).1) q8k (by rw [<- List.length_map (f := eV), hi]; exact Nat.lt_of_le_of_lt hz (by decide)) (q4a hl hi hC) hg.1 h2 hsz hd hu fun s' t' ps' F2 N2 hT hG hos => ?_
 exact k _ _ _ ⟨rfl, _, ps', pb, ⟨hs1, ts, tz, rfl⟩, hT, h3, rfl⟩ ⟨m', _, F2, hm', N2, by rw [q6d hl]; rfl, hn, by rw [ho]; exact ⟨hG, hos.trans hg.2⟩⟩
theorem strH {chs : List (Str × Str)} (ok : c.OkG) (bare : c.Bare) (hl : FL F σ ex l) (hC : ChE l σ.its chs) (hz : σ.its.length <= 1000) (hsz : csum chs < 1000000) (hd : c.dp + 20 < recursionLimit) (hu : c.un + 200 < cLine) :
  Cl c m l (.ref 223) [.ref F.a1] (fun v l' => v = .str (q0m chs) 0 /\ FL F σ ex l') := by
 intro vs' Q E s S hv k
 obtain rfl := q33 hv
 (refine q09 hl fun dz pa pb z1z h2 h3 z2z => ?_; (try clear hl); obtain ⟨hs1, ts, tz, rfl⟩ := z1z; subst z2z)
 (refine q08 (ok.B) fun A₀ base B C1 C2 => ?_)
 (refine q0y (ok.T) fun p loose mean mg mb T => ?_)
 (refine q07 (S.acc (i := 2) (j := 3) rfl rfl rfl) fun its' ep I hi => ?_)
 have gz := S.obj (i := 3) (a := F.dx) (o := dictOf [⟨hs1, .str q0o ts, .int σ.sz tz⟩] 1) rfl rfl
 (refine q00 S fun m' led' F' hm' N hl hn hg => ?_; (try clear S))
 (refine E_ea (q03 (i := 6) hl rfl) fun o5 g1 g2 => ?_)
 obtain rfl := q0z g2 rfl
 (refine E_e bare fun os ho => ?_; (try clear bare))
 rw [ho] at hg
 refine qf2 (att := led'.filter tupP) B F' ok.X N (q1b g1 (by rw [q0e hl]; exact hn)) T ok.K I.at_ gz (fun p hp => (N p (List.mem_filter.mp hp).1).1) q8k (by rw [<- List.length_map (f := eV), hi]; exact Nat.lt_of_le_of_lt hz (by decide)) (q4a hl hi hC) hg.1 h3 hsz hd hu fun s' t' ps' F2 N2 hT hG hos => ?_
 exact k _ _ _ ⟨rfl, _, pa, ps', ⟨hs1, ts, tz, rfl⟩, h2, hT, rfl⟩ ⟨m', _, F2, hm', N2, by rw [q6d hl]; rfl, hn, by rw [ho]; exact ⟨hG, hos.trans hg.2⟩⟩
end
end
section
noncomputable def TbG (c : Cx) (m : Fm) (led : Led) (e : Expr) (b : Bool) (R : Led -> Prop) : Prop :=
 ∀ (Q : Bool -> Shared -> Prop) (E : Value -> Shared -> Prop) s, SS c m led s -> (∀ l s', R l -> SS c m l s' -> Q b s') -> wpAny c.M c.A (PySem.isTrue e c.env (eval e c.env)) Q E s
noncomputable abbrev Cx.up (c : Cx) : Cx := { c with un := c.un + 1 }
theorem Cx.OkG.up {c : Cx} (ok : c.OkG) : c.up.OkG := ⟨ok.B, ok.X, ok.T, ok.K, ok.G⟩
section
variable {c : Cx} {m : Fm} {l ex : Led} {a b e : Expr} {pos : Pos} {rest : List Stmt} {P : Flow -> Shared -> Prop} {x dx : Addr} {its : List Value} {sz : Int} {i : Nat} {R : Led -> Prop}
theorem Bd.iteG {test : Expr} {body orelse : List Stmt} {b : Bool} (ht : TbG c m l test b R) (h1 : b = true -> ∀ l2, R l2 -> Bd c m l2 body (q3t c rest P)) (h2 : b = false -> ∀ l2, R l2 -> Bd c m l2 orelse (q3t c rest P)) : Bd c m l (.If test body orelse pos :: rest) P := by
 intro Q E s hE S k
 refine wpAny_execs_cons (wpAny_If (ht _ _ s S fun l2 s1 hR S1 => ?_))
 have fin : ∀ f s', q3t c rest P f s' -> (match f with | .next => wpAny c.M c.A (execs rest c.env) Q E s' | f => Q f s') := by
  intro f s' h
  cases f with
  | next => exact h Q E hE k
  | _ => exact k _ _ h
 cases b with
 | true => rw [if_pos rfl]; exact h1 rfl l2 hR _ _ _ hE S1 fin
 | false => rw [if_neg (by decide)]; exact h2 rfl l2 hR _ _ _ hE S1 fin
theorem TbG.gt {x y : Int} (ha : EvG c m l a (fun v l2 => v = vI x /\ R l2)) (hb : ∀ l2, R l2 -> Ev c m l2 b (vI y)) (hm : behindInMarks .Gt b = false) : TbG c m l (.Compare a [.Gt] [b] pos) (decide (y < x)) R := by
 intro Q E s S h
 refine wpAny_isTrue_Compare1 (ha _ _ s S fun va l2 s1 ea S1 => hb l2 ea.2 _ _ s1 S1 fun vb s2 eb S2 => ?_) hm
 (refine E_e (q0a ea.1) fun t z1z => ?_; subst z1z)
 (refine E_e (q0a eb) fun u z1z => ?_; subst z1z)
 exact gt_int (wpAny_truthy_bool (h _ _ ea.2 S2))
theorem TbG.bool {r : Bool} (h : EvG c m l a (fun v l2 => v = .bool r /\ R l2)) (hw : PySem.isTrue a c.env (eval a c.env) = (do let v <- eval a c.env; standAt a.pos; holding [v] (truthy v))) : TbG c m l a r R := by
 intro Q E s S k
 refine isTrue_plain (h _ _ s S fun v l2 s1 e S1 => ?_) hw
 obtain rfl := q42 e.1
 exact wpAny_truthy_bool (k _ _ e.2 S1)
theorem EvG.lenA {n : Int} (ok : c.OkG) (hf : Ev c m l e (.builtin "len")) (ha : Ev c m l a (.ref x)) (hA : AtA l x dx its sz i) (hcl : Cl c.up m l (.ref 216) [.ref x] (fun v l2 => v = vI n /\ R l2)) (hn : 0 <= n /\ n < 2 ^ 63)
  (hc : eval (.Call e [a] [] pos) c.env = (do callWith pos (<- eval e c.env) [] (backTo pos (starEach [a] c.env)) (backToKw pos (keywordEach [] c.env)))) (hs : starEach [a] c.env = (false, eval a c.env) :: starEach [] c.env) : EvG c m l (.Call e [a] [] pos) (fun v l2 => v = vI n /\ R l2) := by
 intro Q E s S h
 refine Call_ (hf _ _ s S fun vf s0 ef S0 => ?_) hc
 obtain rfl := q0t ef
 refine PyProof.Rows.callWith_builtin1 (args_cons (ha _ _ s0 S0 fun va s1 ea S1 => args_nil ?_) hs) hs rfl
 obtain rfl := q04 ea
 (refine q1i hA fun h1 j dz h2 hz1 => ?_; (try clear hA))
 (refine q07 (S1.acc h1 h2 hz1.fix) fun its' ep I z1z => ?_; (try clear z1z))
 have F : ∃ m', Fr c.h₀ c.L s1.heap m' := by (refine q07 S1 fun m' led' F _ => ?_; (try clear S1)); exact ⟨m', F⟩
 obtain ⟨m', F⟩ := F
 refine len_K F ok.X I ?k1 ?k2 (hcl _ _ _ s1 S1 rfl fun v l2 s2 hv S2 => ?_)
 case k1 => k_is
 case k2 => k_is
 (refine E_e (q0a hv.1) fun t z1z => ?_; subst z1z)
 exact ⟨hn, h _ _ _ ⟨rfl, hv.2⟩ S2⟩
theorem SS.truthA {n : Int} {s1 : Shared} {Q : Bool -> Shared -> Prop} {E : Value -> Shared -> Prop} (ok : c.OkG) (S1 : SS c m l s1) (hA : AtA l x dx its sz i) (hcl : Cl c.up m l (.ref 216) [.ref x] (fun v l2 => v = vI n /\ R l2)) (hn : 0 < n /\ n < 2 ^ 63) (h : ∀ l2 s2, R l2 -> SS c m l2 s2 -> Q true s2) :
  wpAny c.M c.A (truthy (.ref x)) Q E s1 := by
 (refine q1i hA fun h1 j dz h2 hz1 => ?_; (try clear hA))
 (refine q07 (S1.acc h1 h2 hz1.fix) fun its' ep I z1z => ?_; (try clear z1z))
 have F : ∃ m', Fr c.h₀ c.L s1.heap m' := by (refine q07 S1 fun m' led' F _ => ?_; (try clear S1)); exact ⟨m', F⟩
 obtain ⟨m', F⟩ := F
 refine q8x F ok.X I ?k0 ?k1 ?k2 (hcl _ _ _ s1 S1 rfl fun v l2 s2 hv S2 => ?_)
 case k0 => k_is
 case k1 => k_is
 case k2 => k_is
 (refine E_e (q0a hv.1) fun t z1z => ?_; subst z1z)
 exact ⟨n, t, rfl, hn, h _ _ hv.2 S2⟩
theorem EvG.notA {n : Int} (ok : c.OkG) (ha : Ev c m l a (.ref x)) (hA : AtA l x dx its sz i) (hcl : Cl c.up m l (.ref 216) [.ref x] (fun v l2 => v = vI n /\ R l2)) (hn : 0 < n /\ n < 2 ^ 63) : EvG c m l (.UnaryOp .Not a pos) (fun v l2 => v = .bool false /\ R l2) := by
 intro Q E s S h
 refine UnaryOp_ (ha _ _ s S fun va s1 ea S1 => not_of ?_)
 obtain rfl := q04 ea
 exact S1.truthA ok hA hcl hn fun l2 s2 hR S2 => h (.bool (!true)) _ _ ⟨rfl, hR⟩ S2
theorem EvG.strA {y : Str} (ok : c.OkG) (hu : c.un + 10 < cLine) (hf : Ev c m l e (.type "str")) (ha : Ev c m l a (.ref x)) (hA : AtA l x dx its sz i) (hcl : Cl c.up.up m l (.ref 223) [.ref x] (fun v l2 => v = .str y 0 /\ R l2))
  (hc : eval (.Call e [a] [] pos) c.env = (do callWith pos (<- eval e c.env) [] (backTo pos (starEach [a] c.env)) (backToKw pos (keywordEach [] c.env)))) (hs : starEach [a] c.env = (false, eval a c.env) :: starEach [] c.env) : EvG c m l (.Call e [a] [] pos) (fun v l2 => v = .str y 0 /\ R l2) := by
 intro Q E s S h
 refine Call_ (hf _ _ s S fun vf s0 ef S0 => ?_) hc
 obtain rfl := q44 ef
 refine PyProof.Rows.callWith_type1 (args_cons (ha _ _ s0 S0 fun va s1 ea S1 => args_nil ?_) hs) hs rfl
 obtain rfl := q04 ea
 (refine q1i hA fun h1 j dz h2 hz1 => ?_; (try clear hA))
 (refine q07 (S1.acc h1 h2 hz1.fix) fun its' ep I z1z => ?_; (try clear z1z))
 have X1 : (Mine.hd.heap_1 c.w.params).In s1.heap := by (refine q07 S1 fun m' led' F _ => ?_; (try clear S1)); exact ok.X.keeps F.keep
 refine kso_call (Nat.lt_of_le_of_lt (Nat.add_le_add_left (by decide : 2 <= 10) c.un) hu) X1 I ?k1 ?k2 (hcl _ _ _ s1 S1 rfl fun v l2 s2 hv S2 => ?_)
 case k1 => k_is
 case k2 => k_is
 (refine E_e (q0i hv.1) fun t z1z => ?_; subst z1z)
 exact h _ _ _ ⟨rfl, hv.2⟩ S2
theorem q14 {A : Around} {y : Str} {t : Tok} {name : Str} {id : String} {pl : Sem Bool} {Q : Value × List Value -> Shared -> Prop} {E : Value -> Shared -> Prop} {s : Shared} {prog : Program} {w : World} (slot : Slot "str" name id) (hty : typeOf (.builtin id) = pure (.type "method_descriptor"))
  (h : Q (.builtin id, [.str y t]) s) : wpAny (model prog w) A (getMethod (.str y t) name pl) Q E s := by
 exact getMethod_builtin (T := "str") rfl PySem.F.plainAttrs_str slot hty (fun a e => by cases e) h
theorem EvG.isspace {y : Str} {pl : Sem Bool} {ap : Pos} (ha : EvG c m l a (fun v l2 => v = .str y 0 /\ R l2)) (hc : eval (.Call (.Attribute a "isspace" ap) [] [] pos) c.env = (do let ov <- eval a c.env; standAt ap.atName; let (f, first) <- holding [ov] (getMethod ov "isspace" pl); callWith pos f first (backTo pos (starEach [] c.env)) [])) :
  EvG c m l (.Call (.Attribute a "isspace" ap) [] [] pos) (fun v l2 => v = .bool (Txt.isspace y) /\ R l2) := by
 intro Q E s S k
 refine MethodCall_ (ha _ _ s S fun va l2 s1 ea S1 => ?_) hc
 (refine E_e (q0i ea.1) fun t z1z => ?_; subst z1z)
 exact q14 PySem.F.slot_str_isspace PySem.F.type_str_isspace (callWith_method0 (PySem.SC.isspace (k _ _ _ ⟨rfl, ea.2⟩ S1)))
theorem EvG.andB {p : Bool} {R' : Value -> Led -> Prop} (ha : Ev c m l a (.bool p)) (h1 : p = true -> EvG c m l b R') (h0 : p = false -> R' (.bool false) l) : EvG c m l (.BoolOp .And [a, b] pos) R' := by
 intro Q E s S k
 refine BoolOp_and (ha _ _ s S fun v s1 e S1 => ?_)
 obtain rfl := q42 e
 refine wpAny_truthy_bool ?_
 cases p with
 | true => exact BoolOp_one (h1 rfl _ _ s1 S1 k)
 | false => exact k _ _ _ (h0 rfl) S1
theorem EvG.orB {p : Bool} {R' : Value -> Led -> Prop} (ha : EvG c m l a (fun v l2 => v = .bool p /\ R l2)) (h1 : p = false -> ∀ l2, R l2 -> EvG c m l2 b R') (h0 : p = true -> ∀ l2, R l2 -> R' (.bool true) l2) : EvG c m l (.BoolOp .Or [a, b] pos) R' := by
 intro Q E s S k
 refine BoolOp_or (ha _ _ s S fun v l2 s1 e S1 => ?_)
 obtain rfl := q42 e.1
 refine wpAny_truthy_bool ?_
 cases p with
 | false => exact BoolOp_one (h1 rfl l2 e.2 _ _ s1 S1 k)
 | true => exact k _ _ _ (h0 rfl l2 e.2) S1
end
end
section
section
variable {c : Cx} {m : Fm} {l ex : Led} {a b e : Expr} {pos : Pos} {rest : List Stmt} {P : Flow -> Shared -> Prop} {F : FX} {σ : FZ} {R : Led -> Prop}
theorem FL.atA (h : FL F σ ex l) : AtA l F.a1 F.dx σ.its σ.sz 2 := by
 (refine q09 h fun dz pa pb h1 h2 h3 z1z => ?_; (try clear h); subst z1z)
 exact ⟨rfl, 3, dz, rfl, h1⟩
theorem FL.mem (h : FL F σ ex l) {p : Addr × Obj} (hp : p ∈ ex) : p ∈ l := by
 (refine q09 h fun dz pa pb h1 h2 h3 z1z => ?_; (try clear h); subst z1z)
 exact .tail _ (.tail _ (.tail _ (.tail _ (.tail _ (.tail _ (.tail _ hp))))))
theorem ChE.mono {l l' : Led} (h : ∀ p ∈ l, p ∈ l') {its : List Value} {chs : List (Str × Str)} (hC : ChE l its chs) : ChE l' its chs := All2.mono (fun _ _ ⟨t, h1, h2⟩ => ⟨t, h1, h _ h2⟩) hC
theorem Ev.eq {x y : Int} (ha : Ev c m l a (.int x 0)) (hb : Ev c m l b (.int y 0)) (hm : behindInMarks .Eq b = false) : Ev c m l (.Compare a [.Eq] [b] pos) (.bool (x == y)) := Ev.cmp ha hb hm fun _ _ _ _ _ k => eq_int k
theorem qh5 {chs : List (Str × Str)} (ok : c.OkG) (bare : c.Bare) (hl : FL F σ ex l) (hC : ChE ex σ.its chs) (hz : σ.its.length <= 1000) (hsz : 0 <= σ.sz /\ σ.sz + csum chs < 1000000) (hp : σ.sz = 0 -> 0 < csum chs /\ Txt.isspace (q0m chs) = false) (hd : c.dp + 30 < recursionLimit) (hu : c.un + 300 < cLine) :
  Cl c m l (.ref 238) [.ref F.a1] (fun v l' => v = .bool false /\ FL F σ ex l') := by
 refine' Cl.dfnD [Str.ofString "self"] [] ok ?ho ?hcd ?hroom ?hbind ?hloc ?z1 ?z2 ?z3 ?z4 ?h
 case ho => k_is
 case hcd => k_is
 case hroom => exact room (j := 0) hd (by decide)
 case hbind =>
  intro s vs' _ hl
  (refine E_e (ex1 hl) fun v1 z1z => ?_; subst z1z)
  exact BindsTo.of_eq rfl
 case hloc => rfl
 case z1 => rfl
 case z2 => rfl
 case z3 => rfl
 case z4 => decide
 case h =>
 intro L' g okc hlt
 have hln := fun (m1 : Fm) (l2 : Led) (h2 : FL F σ ex l2) => lenH (c := (c.under _ _ L' 238 _ g []).up) (m := m1) okc.toOkG.up bare h2 (hC.mono fun p hp => h2.mem hp) hz hsz (room (j := 21) hd (by decide)) (Nat.lt_of_le_of_lt (by show c.un + 3 + 1 + 200 <= _; exact o74) hu)
 have hst := fun (m1 : Fm) (l2 : Led) (h2 : FL F σ ex l2) => strH (c := (c.under _ _ L' 238 _ g []).up.up) (m := m1) okc.toOkG.up.up bare h2 (hC.mono fun p hp => h2.mem hp) hz (Int.lt_of_le_of_lt (Int.le_add_of_nonneg_left hsz.1) hsz.2) (room (j := 21) hd (by decide)) (Nat.lt_of_le_of_lt (by show c.un + 3 + 1 + 1 + 200 <= _; exact o67) hu)
 (refine q1i (hl.atA) fun h1 j dz h2 hz1 => ?_)
 refine Bd.ret (R := fun v l' => v = .bool false /\ FL F σ ex l') (EvG.andB (Ev.eq (Ev.asize okc.toOkG (by wtm_at "ev") h1 h2 hz1 (by with_unfolding_all rfl)) Ev.int rfl) (fun hb => ?_) fun hb => ⟨rfl, hl⟩) fun v l2 s hR S => ⟨_, _, S, hR⟩
 have h0 : σ.sz = 0 := beq_iff_eq.mp hb
 (refine E_a (hp h0) fun hp1 hp2 => ?_)
 refine EvG.orB (EvG.notA (n := σ.sz + csum chs) okc.toOkG (by wtm_at "ev") hl.atA (hln _ _ hl) ⟨by exact o390 hsz hp1, by exact o391 hsz⟩) (fun _ l2 hl2 => ?_) fun hb => by cases hb
 exact (EvG.isspace (EvG.strA okc.toOkG (Nat.lt_of_le_of_lt (by show c.un + 3 + 10 <= _; exact o80) hu) (by wtm_at "ev") (by wtm_at "ev") hl2.atA (hst _ _ hl2) rfl rfl) rfl).mono fun v l' h => ⟨by rw [h.1, hp2], h.2⟩
end
end
section
section
variable {c : Cx} {m : Fm} {l ex : Led} {a b e : Expr} {pos : Pos} {rest : List Stmt} {P : Flow -> Shared -> Prop} {F : FX} {σ : FZ}
theorem ClK.perm {l l' : Led} {f : Value} {vs : List Value} {R : Value -> Led -> Prop} (hp : l.Perm l') (h : ClK c m l' f vs R) : ClK c m l f vs R := fun vs' Q E s S hv k => h vs' Q E s (S.perm hp) hv k
theorem EvG.accPush {T x dx : Addr} {its : List Value} {sz : Int} {i j : Nat} {v1 v2 : Value} {R : Value -> Led -> Prop} {ap p2 : Pos} (ok : c.OkG) (ha : Ev c m l a (.ref x)) (hA : AtA l x dx its sz i) (he : ∀ p, Ev c m (p :: l) e (.ref T)) (hT : l[j]? = some (T, tpO [v1, v2]))
  (hcl : ∀ p, ClK c m (p :: l) (.ref 193) [.ref x, v1, v2] R)
  (hc : eval (.Call (.Attribute a "push" ap) [.Starred e p2] [] pos) c.env = (do let ov <- eval a c.env; standAt ap.atName; let (f, first) <- holding [ov] (do pure (<- getAttr ov "push" true, [])); callWith pos f first (backTo pos (starEach [.Starred e p2] c.env)) [])) (hs : starEach [.Starred e p2] c.env = [(true, eval e c.env)]) :
  EvG c m l (.Call (.Attribute a "push" ap) [.Starred e p2] [] pos) R := by
 intro Q E s S h
 refine q7i (ha _ _ s S fun va s1 ea S1 => ?_) hc
 obtain rfl := q04 ea
 (refine q1i hA fun h1 jz dz h2 hz1 => ?_; (try clear hA))
 (refine q07 (S1.acc h1 h2 hz1.fix) fun its' ep I z1z => ?_; (try clear z1z))
 (refine q2n hz1 fun hs1 ts tz z1z => ?_; (try clear hz1); subst z1z)
 (refine q00 S1 fun m' led' F hm' N hl hn hg => ?_; (try clear S1))
 refine qa7 (f := 193) F ok.X N I ?hm ?hga ?hk ?hh ?ha ?hg ?ht ?hc rfl ?hty fun q h' F' N' l1 => ?_
 case hm => k_is
 case hga => k_is
 case hk => k_is
 case hh => k_is
 case ha => k_is
 case hg => k_is
 case ht => k_is
 case hc => decide
 case hty => k_is
 have S2 : SS c m ((q, methodObj (.ref 193) (.ref x)) :: l) { s1 with heap := h', toks := s1.toks + 1 } := ⟨m', _, F', hm', N', by rw [List.map_cons, hl]; rfl, q0d hl hn l1, hg⟩
 refine q7b (e := e) N' (ok.X.keeps F'.keep) (.head _) ?k4 (he _ _ _ _ S2 fun v s3 e3 S3 => ?_) hs
 case k4 => k_is
 obtain rfl := q04 e3
 have S4 := S3
 (refine q00 S3 fun m3 led3 F3 hm3 N3 hl3 hn3 hg3 => ?_; (try clear S3))
 (refine E_ea (q03 hl3 (q06 hT)) fun o' g1 g2 => ?_)
 (refine E_ea (q3d g2) fun ws z1z g3 => ?_; subst z1z)
 refine qbp F3 N3 (N3 _ (List.mem_of_getElem? g1)).1 rfl rfl rfl (by rw [List.size_toArray, <- List.length_map (f := eV), g3]; exact Nat.le_of_ble_eq_true rfl) fun h4 F4 N4 => ?_
 (refine E_ea (q03 (i := 0) hl3 rfl) fun oq g4 g5 => ?_)
 obtain rfl := q0z g5 rfl
 refine ⟨methP N4 (List.mem_of_getElem? g4) (ok.X.keeps F4.keep), call_meth N4 (List.mem_of_getElem? g4) ?_⟩
 exact hcl _ _ _ _ _ ⟨m3, led3, F4, hm3, N4, hl3, hn3, hg3⟩ (by rw [List.map_cons]; exact congrArg (Value.ref x :: ·) g3) h
theorem TbG.neBlank {T : Addr} {f p : Str} {i k : Nat} {p2 q1 q2 : Pos} {k1 k2 : Nat} (ha : Ev c m l a (.ref T)) (hT : l[i]? = some (T, tpO [.str f 0, .str p 0])) (h1 : PyData.strOk f = true) (h2 : PyData.strOk p = true) (hp : p ≠ Str.ofString "" ∨ f ≠ Str.ofString " ") (hu : c.un + 100 < cLine)
  (hs : EvA c m l [.Constant (.str (Str.ofString " ")) k1 q1, .Constant (.str (Str.ofString "")) k2 q2] [.str " " 0, .str "" 0])
  (hm : behindInMarks .NotEq (.Tuple [.Constant (.str (Str.ofString " ")) k1 q1, .Constant (.str (Str.ofString "")) k2 q2] k p2) = false) :
  Tb c m l (.Compare a [.NotEq] [.Tuple [.Constant (.str (Str.ofString " ")) k1 q1, .Constant (.str (Str.ofString "")) k2 q2] k p2] pos) true := by
 intro Q E s S h
 refine wpAny_isTrue_Compare1 (ha _ _ s S fun va s1 ea S1 => EvG.tup hs (show 2 <= _ by decide) _ _ s1 S1 fun vb l2 s2 hv S2 => ?_) hm
 obtain rfl := q04 ea
 obtain ⟨D2, hv, rfl⟩ := hv
 obtain rfl := q04 hv
 have S3 := S2
 (refine q00 S2 fun m' led' F hm' N hl hn hg => ?_; (try clear S2))
 (refine E_ea (q03 hl (q06 hT)) fun o1 g1 g2 => ?_)
 (refine E_ea (q3d g2) fun w1 z1z g3 => ?_; subst z1z)
 (refine E_ea (q03 (i := 0) hl rfl) fun o2 g4 g5 => ?_)
 (refine E_ea (q3d g5) fun w2 z1z g6 => ?_; subst z1z)
 (refine E_ee (ex2 ((List.length_map (f := eV) ▸ congrArg List.length g3 : w1.length = 2))) fun x1 x2 z1z => ?_; subst z1z)
 (refine E_ee (ex2 ((List.length_map (f := eV) ▸ congrArg List.length g6 : w2.length = 2))) fun y1 y2 z1z => ?_; subst z1z)
 simp only [List.map_cons, List.map_nil, List.cons.injEq, and_true] at g3 g6
 (refine E_e (q0i g3.1) fun t1 z1z => ?_; subst z1z)
 (refine E_e (q0i g3.2) fun t2 z1z => ?_; subst z1z)
 (refine E_e (q0i g6.1) fun t3 z1z => ?_; subst z1z)
 (refine E_e (q0i g6.2) fun t4 z1z => ?_; subst z1z)
 exact qcu (N _ (List.mem_of_getElem? g1)).1 (N _ (List.mem_of_getElem? g4)).1 h1 h2 hp (Nat.lt_of_le_of_lt (Nat.add_le_add_left (by decide) _) hu) (wpAny_truthy_bool (h _ S3.drop))
theorem TbG.andF {es : List Expr} {R : Led -> Prop} (h : TbG c m l a false R) : TbG c m l (.BoolOp .And (a :: es) pos) false R := fun Q E s S k => isTrue_and (h _ _ s S fun l2 s1 hR S1 => k l2 s1 hR S1)
theorem FL.add (h : FL F σ ex l) (p : Addr × Obj) : ∃ l2, FL F σ (p :: ex) l2 /\ (p :: l).Perm l2 := by
 (refine q09 h fun dz pa pb h1 h2 h3 z1z => ?_; (try clear h); subst z1z)
 exact ⟨_, ⟨dz, pa, pb, h1, h2, h3, rfl⟩, FP.out⟩
theorem FL.sub {ex' : Led} (h : FL F σ ex l) (hs : ex'.Sublist ex) : ∃ l2, FL F σ ex' l2 /\ l2.Sublist l := by
 (refine q09 h fun dz pa pb h1 h2 h3 z1z => ?_; (try clear h); subst z1z)
 exact ⟨_, ⟨dz, pa, pb, h1, h2, h3, rfl⟩, ((((((hs.cons_cons _).cons_cons _).cons_cons _).cons_cons _).cons_cons _).cons_cons _).cons_cons _⟩
end
end
noncomputable def fill (n : Nat) : Nat -> Nat -> Int -> List Int -> List Int
 | 0, _, _, ns => ns
 | 1, L, x, ns => ns.set L x
 | k + 2, L, x, ns => fill n (k + 1) (L + 1) (x / 2 ^ n) (ns.set L (x % 2 ^ n))
theorem qc7 {x y : Int} (hx : 0 <= x) (hy : 0 < y) : x % y <= x := by
 rw [Int.emod_def]
 have h1 := Int.ediv_nonneg hx (Int.le_of_lt hy)
 have h2 := Int.mul_nonneg (Int.le_of_lt hy) h1
 omega
theorem qgh {nm nm2 ql : Str} {ps : Arguments} {bd : List Stmt} {sc : Scope} {po : Pos} (hdef : subAt 1 (qe4 8) = .FunctionDef nm ps bd [] none [] sc none nm2 po)
  {f c' c1 c2 c3 D : Addr} {doc pm ctv : Value} {oc : Obj} {cvs : Array Value} {tq : Tok} {n : Nat} {i j iD : Nat} (hcd : oc.data = .fields cvs) (hcq : cvs[1]? = some (.str ql tq)) (hn : 1 <= n /\ n <= 18) :
  ∀ (k : Nat) (c : Cx) (m : Fm) (led : Led) (ns : List Int) (L : Nat) (x : Int), c.Ok -> c.dp + k + 2 < recursionLimit -> led[i]? = some (f, fnMade nm ql ps bd sc [(Str.ofString "n", c1), (Str.ofString "inner", c3), (Str.ofString "a_digits", c2)] doc pm c' ctv) -> led[j]? = some (c', oc) →
   CellV led c1 (vI n) -> CellV led c3 (.ref f) -> CellV led c2 (.ref D) -> led[iD]? = some (D, lsI ns) -> 1 <= k -> k <= 3 -> L + k <= ns.length -> ns.length <= 3 -> 0 <= x -> x < 262144 →
   Cl c m led (.ref f) [vI x, vI L, vI (L + k)] (fun _ l => l = led.set iD (D, lsI (fill n k L x ns))) := by
 conv at hdef => lhs; whnf
 injection hdef with e1 e2 e3 e4 e5 e6 e7 e8 e9 e10
 subst e1 e2 e3 e7 e9 e10
 intro k
 induction k using Nat.strongRecOn with
 | ind k ih =>
  intro c m led ns L x ok hdp hf hc h1 h3 h2 hD hk1 hk3 hL hl3 hx0 hx1
  refine' Cl.nest [Str.ofString "x", Str.ofString "L", Str.ofString "R"] ok hf hc hcd hcq ?hroom ?hbind ?hloc ?z1 ?z2 ?z3 ?z4 ?h
  case hroom => exact o196 hdp
  case hbind =>
   intro s vs' hl
   (refine q2n (ex3 hl) fun v1 v2 v3 z1z => ?_; subst z1z)
   exact BindsTo.of_eq rfl
  case hloc => rfl
  case z1 => rfl
  case z2 => rfl
  case z3 => rfl
  case z4 => decide
  case h =>
  intro L' g okc hlt
  refine Bd.ite (by wtm_at "tb") (fun hb => ?_) (fun hb => ?_)
  ·have hk0 : k = 1 := by have := beq_iff_eq.mp hb; omega
   subst hk0
   refine Bd.setI (by wtm_at "ev") (by wtm_at "ev") (by wtm_at "ev") hD (by exact Int.natCast_nonneg _) (by exact Int.ofNat_lt.mpr hL) (by exact o47 hl3) ?_ rfl
   exact Bd.ret0 fun s S => ⟨_, _, S, rfl⟩
  ·(refine E_e (⟨k - 2, by rw [beq_eq_false_iff_ne] at hb; exact o122 hk1 hb⟩ : ∃ q, k = q + 2) fun q z1z => ?_; subst z1z)
   have e1 : ((L : Int) + (L + ((q + 2 : Nat) : Int))).fdiv (2 ^ Int.toNat 1) = (L : Int) + 1 := by
    rw [show (2 : Int) ^ Int.toNat 1 = 2 from rfl, Int.fdiv_eq_ediv_of_nonneg _ (by decide)]; exact o117 hk3
   have e2 : ((L : Int) + 1 - L) * n = n := by rw [show (L : Int) + 1 - L = 1 by exact o69, Int.one_mul]
   have e3 : x.fdiv (2 ^ (n : Int).toNat) = x / 2 ^ n := Int.fdiv_eq_ediv_of_nonneg _ (Int.le_of_lt (Int.pow_pos (by decide)))
   have e4 : Builtin.bitXor x (x / 2 ^ n * 2 ^ (n : Int).toNat) = x % 2 ^ n := by have := Mine.xor_low hx0 n; rw [<- e3]; exact this
   have hu0 : 0 <= x / 2 ^ n := Int.ediv_nonneg hx0 (Int.le_of_lt (Int.pow_pos (by decide)))
   have hu1 : x / 2 ^ n < 262144 := Int.lt_of_le_of_lt (Int.ediv_le_self _ hx0) hx1
   have hw0 : 0 <= x % 2 ^ n := Int.emod_nonneg _ (Int.ne_of_gt (Int.pow_pos (by decide)))
   have hw1 : x % 2 ^ n < 262144 := Int.lt_of_le_of_lt (qc7 hx0 (Int.pow_pos (by decide))) hx1
   refine Bd.fall (Bd.assign okc (Ev.to (by wtm_at "ev") (congrArg vI e1)) ?_ rfl rfl)
   refine Bd.assign okc (Ev.to (by wtm_at "ev") (congrArg vI e2)) ?_ rfl rfl
   refine Bd.assign okc (Ev.to (by wtm_at "ev") (congrArg vI e3)) ?_ rfl rfl
   refine Bd.assign okc (Ev.to (by wtm_at "ev") (congrArg vI e4)) ?_ rfl rfl
   refine Bd.expr (EvG.callF (by wtm_at "ev") hf (by wtm_at "eva") (ih 1 (by exact Nat.le_add_left _ _) _ _ _ ns L (x % 2 ^ n) okc (by show c.dp + 1 + 1 + 2 < _; exact o195 hdp) hf hc h1 h3 h2 hD (by exact Nat.lt_add_one _) (by exact Nat.succ_pos _) (by exact Nat.lt_of_le_of_lt (Nat.le_add_right _ _) hL) hl3 hw0 hw1) rfl rfl rfl) (fun v l hv => ?_) rfl rfl
   subst hv
   have hl1 : (ns.set L (x % 2 ^ n)).length = ns.length := List.length_set
   have h2' := h2.set (r := (D, lsI (ns.set L (x % 2 ^ n)))) hD
   have h1' := h1.set (r := (D, lsI (ns.set L (x % 2 ^ n)))) hD
   have h3' := h3.set (r := (D, lsI (ns.set L (x % 2 ^ n)))) hD
   have hf' := q6f (r := (D, lsI (ns.set L (x % 2 ^ n)))) hf hD (fun h => absurd (Value.type.inj (congrArg (fun p : Addr × Obj => p.2.cls) h)) (by decide))
   have hc' := q6f (r := (D, lsI (ns.set L (x % 2 ^ n)))) hc hD (fun h => by rw [(Prod.mk.inj h).2] at hcd; cases hcd)
   have hcl := fun m1 => ih (q + 1) (by exact Nat.lt_add_one _) _ m1 _ (ns.set L (x % 2 ^ n)) (L + 1) (x / 2 ^ n) okc (by show c.dp + 1 + (q + 1) + 2 < _; exact o194 hdp) hf' hc' h1' h3' h2' (qbe hD) (by exact Nat.succ_pos _) (by exact Nat.lt_of_succ_lt hk3) (by exact o265 hL hl1) (by exact o169 hl3 hl1) hu0 hu1
   rw [show ((L + 1 : Nat) : Int) = (L : Int) + 1 by exact rfl, show (L : Int) + 1 + ((q + 1 : Nat) : Int) = L + ((q + 2 : Nat) : Int) by exact o181] at hcl
   refine Bd.expr (EvG.callF (by wtm_at "ev") hf' (by wtm_at "eva") (hcl _) rfl rfl rfl) (fun v l hv => ?_) rfl rfl
   subst hv
   exact Bd.nil fun s S => ⟨_, _, S, by rw [List.set_set]; rfl⟩
theorem qd4 {l : Led} {i : Nat} {p : Addr × Obj} (h : l[i]? = some p) : l.set i p = l := by
 apply List.ext_getElem?
 intro j
 by_cases q : i = j
 ·subst q
  rw [qbe h, h]
 ·rw [List.getElem?_set_ne q]
theorem qf9 {n : Nat} {kk x : Int} (h : 1 <= kk /\ kk <= 3) : fill n kk.toNat 0 x (List.replicate kk.toNat 0) = dg n kk x := by
 have : kk = 1 ∨ kk = 2 ∨ kk = 3 := by exact o312 h
 rcases this with rfl | rfl | rfl <;> rfl
theorem qdr {c : Cx} {m : Fm} {led T : Led} {x n : Int} (ok : c.Ok) (hT : TabL 61 q2d 45 4 T) (hx0 : 0 <= x) (hx1 : x < 262144) (hn : n = 6 ∨ n = 7) (hd : c.dp + 10 < recursionLimit) :
  Cl c m (T ++ led) (.ref 66) [vI x, vI n] (fun v l => ∃ r T', v = .ref r /\ TabL 61 q2d 45 4 T' /\ l = (r, lsI (digs n.toNat x)) :: (T' ++ led)) := by
 refine' Cl.dfnC [Str.ofString "a", Str.ofString "n"] ok ?ho ?hcd ?hroom ?hbind ?hkind ?hnd ?hca ?z1 ?z2 ?z3 ?h
 case ho => k_is
 case hcd => k_is
 case hroom => exact Nat.lt_of_le_of_lt (Nat.le_add_right _ _) hd
 case hbind =>
  intro s vs' hl
  (refine E_ee (ex2 hl) fun v1 v2 z1z => ?_; subst z1z)
  exact BindsTo.of_eq rfl
 case hkind => rfl
 case hnd => decide
 case hca =>
  intro L'
  show ([L' + 1 + 1 + 1, L' + 1 + 1, L' + 1] : List Nat).Nodup /\ ∀ b ∈ ([L' + 1 + 1 + 1, L' + 1 + 1, L' + 1] : List Nat), L' < b
  simp only [List.nodup_cons, List.mem_cons, List.not_mem_nil, or_false, not_or, List.nodup_nil, and_true, forall_eq_or_imp, forall_eq, not_false_eq_true]
  exact o76
 case z1 => rfl
 case z2 => rfl
 case z3 => rfl
 case h =>
 intro L' g cells okc hlt hce
 have hce' : q4p _ [(Str.ofString "inner", L' + 1 + 1 + 1), (Str.ofString "a_digits", L' + 1 + 1), (Str.ofString "n", L' + 1)] cells := hce
 clear hce
 rcases cells with _ | ⟨⟨a3, o3⟩, _ | ⟨⟨a2, o2⟩, _ | ⟨⟨a1, o1⟩, _ | ⟨p, r⟩⟩⟩⟩
 ·exact hce'.elim
 ·exact hce'.2.2.elim
 ·exact hce'.2.2.2.2.elim
 case cons.cons.cons.cons => exact hce'.2.2.2.2.2.2.elim
 (refine q5p hce' fun z1z z2z z3z z4z z5z z6z z7z => ?_; (try clear hce'); subst z1z; obtain ⟨w3, d3, -⟩ := z2z; subst z3z; obtain ⟨w2, d2, -⟩ := z4z; subst z5z; obtain ⟨w1, d1, e1⟩ := z6z; (try clear z7z))
 (refine E_ea (Option.map_eq_some_iff.mp (show w1.map eV = some (vI n) from e1)) fun v1 z1z ev1 => ?_; subst z1z)
 have hcn : CellV (((L' + 1 + 1 + 1, o3) :: (L' + 1 + 1, o2) :: [(L' + 1, o1)]) ++ (T ++ led)) (L' + 1) (vI n) := ⟨2, o1, v1, rfl, d1, ev1⟩
 have hb0 : (0 : Int) <= ((Builtin.Int.intBits x : Int) + n - 1) / n := Int.ediv_nonneg (by exact o292 hn) (by exact o322 hn)
 have hb1 : ((Builtin.Int.intBits x : Int) + n - 1) / n < 1000 := by
  have e18 : Builtin.Int.intBits x <= 18 := PySem.intBits_le_iff.mpr (by exact o336 hx0 hx1)
  exact Int.lt_of_le_of_lt (Int.ediv_le_self _ (by exact o292 hn)) (by exact o291 hn e18)
 refine Bd.assignC okc (EvG.repl (by wtm_at "eva") (fun l => (have hcn' := hcn.cons (p := l); Ev.fdiv (Ev.sub (Ev.add (Ev.bitlen (by wtm_at "ev") rfl) (by wtm_at "ev")) Ev.int) (by wtm_at "ev") (by exact o320 hn) (PyProof.noPylong_small (by exact o318 hn)))) hb0 hb1) rfl rfl (fun v l hv => ?_) rfl
 (refine E_ea hv fun D z1z z2z => ?_; (try clear hv); subst z1z; subst z2z)
 refine ⟨2, o2, w2, rfl, d2, fun o2' ho2 => ?_⟩
 refine Bd.fdefT (pre := (D, lsI (List.replicate (((Builtin.Int.intBits x : Int) + n - 1) / n).toNat 0)) :: (L' + 1 + 1 + 1, o3) :: (L' + 1 + 1, o2') :: [(L' + 1, o1)]) (T := T) (post := led) (ic := 1) okc hT rfl rfl rfl rfl (fun _ _ h => h) (fun c' => by kn_triples) rfl (fun c' => rfl) rfl ⟨rfl, rfl⟩ rfl rfl rfl rfl d3 (fun f c' oc doc pm ctv o3' hC ho3 => ?_)
 change Bd _ _ ((f, _) :: (D, _) :: (L' + 1 + 1 + 1, o3') :: (L' + 1 + 1, o2') :: (L' + 1, o1) :: (61, _) :: (c', oc) :: led) _ _
 (refine E_ea ho3 fun v3 g3 f3 => ?_; (try clear ho3))
 (refine E_ea ho2 fun v2 g2 f2 => ?_; (try clear ho2))
 (refine q07 hC fun cvs tq hcd hcq => ?_; (try clear hC))
 generalize hLD : ((f, _) :: (D, _) :: (L' + 1 + 1 + 1, o3') :: (L' + 1 + 1, o2') :: (L' + 1, o1) :: (61, _) :: (c', oc) :: led : Led) = LD
 have k1 : CellV LD (L' + 1) (vI n) := by rw [<- hLD]; exact ⟨4, o1, v1, rfl, d1, ev1⟩
 have k2 : CellV LD (L' + 1 + 1) (.ref D) := by rw [<- hLD]; exact ⟨3, o2', v2, rfl, g2, f2⟩
 have k3 : CellV LD (L' + 1 + 1 + 1) (.ref f) := by rw [<- hLD]; exact ⟨2, o3', v3, rfl, g3, f3⟩
 have kf := (congrArg (fun l : Led => l[0]?) hLD).symm
 have kD : LD[1]? = some (D, lsI (List.replicate (((Builtin.Int.intBits x : Int) + n - 1) / n).toNat 0)) := by rw [<- hLD]; rfl
 have kc : LD[6]? = some (c', oc) := by rw [<- hLD]; rfl
 have fin : ∀ (zs : List Int) (c2 : Cx) m2 s, SS c2 m2 (LD.set 1 (D, lsI zs)) s -> SS c2 m2 ((D, lsI zs) :: ([(61, tabObj (q5s 45 4 c')), (c', oc)] ++ led)) s := by
  intro zs c2 m2 s S
  subst hLD
  exact S.pick _ (.cons _ (.cons_cons _ (.cons _ (.cons _ (.cons _ (List.Sublist.refl _)))))) (List.Perm.refl _)
 refine Bd.ite (Tb.int (by wtm_at "ev") rfl) (fun hb => ?_) (fun hb => ?_)
 ·have hx : x ≠ 0 := bne_iff_ne.mp hb
  (refine q3l (qaw hn (by exact o339 hx0 hx) hx1) fun kk hk1 hk2 hk3 hk4 => ?_)
  rw [Int.fdiv_eq_ediv_of_nonneg _ (by exact o322 hn)] at hk1
  rw [hk1] at kD
  have hnn : ((n.toNat : Nat) : Int) = n := Int.toNat_of_nonneg (by exact o322 hn)
  have hkk : ((kk.toNat : Nat) : Int) = kk := Int.toNat_of_nonneg (by exact o401 hb0 hk1)
  rw [<- hnn] at k1
  have hcl := fun m1 => qgh rfl (n := n.toNat) hcd hcq ⟨by exact o323 hn, by exact o319 hn⟩ kk.toNat _ m1 LD (List.replicate kk.toNat 0) 0 x okc (by show c.dp + 1 + kk.toNat + 2 < _; exact o297 hd hk3) kf kc k1 k3 k2 kD (by exact o344 hk2) (by exact o358 hk3) (by rw [List.length_replicate]; exact o376) (by rw [List.length_replicate]; exact o358 hk3) hx0 hx1
  refine Bd.expr (EvG.callF (by wtm_at "ev") kf (by wtm_at "eva") (Eq.mpr (by rw [List.length_map, List.length_replicate, show ((0 : Nat) : Int) + (kk.toNat : Nat) = (kk.toNat : Nat) by exact Int.zero_add _]; rfl) (hcl _)) rfl rfl rfl) (fun v l hv => ?_) rfl rfl
  subst hv
  refine Bd.fall (Bd.ret (Ev.g (Ev.cellv okc rfl rfl rfl (k2.set kD) rfl)) ?_)
  (intro v; intro l; intro s; intro z1y; refine E_a z1y fun hv z2z => ?_; (try clear z1y); subst z2z; intro S)
  exact ⟨_, _, fin _ _ _ _ S, D, _, hv, .inr ⟨c', oc, rfl, cvs, tq, hcd, hcq⟩, by rw [qf9 ⟨hk2, hk3⟩, hk4]⟩
 ·have hx : x = 0 := by simpa using hb
  subst hx
  refine Bd.fall (Bd.ret (Ev.g (Ev.cellv okc rfl rfl rfl k2 rfl)) ?_)
  (intro v; intro l; intro s; intro z1y; refine E_a z1y fun hv hl9 => ?_; (try clear z1y); intro S)
  rw [hl9, <- qd4 kD] at S
  refine ⟨_, _, fin _ _ _ _ S, D, _, hv, .inr ⟨c', oc, rfl, cvs, tq, hcd, hcq⟩, ?_⟩
  rw [show ((Builtin.Int.intBits 0 : Int) + n - 1) / n = 0 from Int.ediv_eq_zero_of_lt (by show 0 <= ((0 : Nat) : Int) + n - 1; exact o321 hn) (by show ((0 : Nat) : Int) + n - 1 < n; exact o365)]
  rfl
theorem qhc {c : Cx} {m : Fm} {led : Led} {x : Int} (ok : c.Ok) (hx0 : 0 <= x) (hx1 : x < 1000000) (hd : c.dp + 5 < recursionLimit) :
  Cl c m led (.ref 52) [vI x, vI 64, vI 7] (NewO led (tpO [vI (x / 64), vI (x % 64)])) := by
 refine' Cl.dfn [Str.ofString "a", Str.ofString "b", Str.ofString "n"] ok ?ho ?hcd ?hroom ?hbind ?hloc ?z1 ?z2 ?z3 ?z4 ?h
 case ho => k_is
 case hcd => k_is
 case hroom => exact Nat.lt_of_le_of_lt (Nat.le_add_right _ _) hd
 case hbind =>
  intro s vs' hl
  (refine q2n (ex3 hl) fun v1 v2 v3 z1z => ?_; subst z1z)
  exact BindsTo.of_eq rfl
 case hloc => rfl
 case z1 => rfl
 case z2 => rfl
 case z3 => rfl
 case z4 => decide
 case h =>
 intro L' g okc hlt
 have hbl : Builtin.Int.intBits x <= 64 := intBits_le_64 (by exact o342 hx0) (by exact o350 hx1)
 refine Bd.ite (Tb.le (Ev.sub (Ev.bitlen (by wtm_at "ev") rfl) (by wtm_at "ev")) (by wtm_at "ev") rfl) (fun hb => ?_) (fun hb => absurd (of_decide_eq_false hb) (by exact o60 hbl))
 refine Bd.ret (EvG.divmod (by wtm_at "ev") (by wtm_at "eva") (by decide) (PyProof.noPylong_of_log2 (by decide +kernel)) rfl rfl rfl) ?_
 intro v l s hv S
 exact ⟨_, _, S, hv⟩
noncomputable def q6e (a : Int × List Int) (d : Int) : Int × List Int := ((a.1 * 128 + d) % 64, a.2 ++ [(a.1 * 128 + d) / 64])
theorem q9y {x : Int} (h0 : 0 < x) (h1 : x < 262144) : 1 <= (digs 7 x).length /\ (digs 7 x).length <= 3 /\ (∀ y ∈ digs 7 x, 0 <= y /\ y < 128) /\ ((digs 7 x).reverse.foldl q6e (0, [])).1 = x % 64 /\ valD ((digs 7 x).reverse.foldl q6e (0, [])).2.reverse (digs 7 x).length 0 = x / 64 := by
 unfold digs
 rw [if_neg (by exact Int.ne_of_gt h0)]
 show _ /\ _ /\ _ /\ _ /\ _
 rw [show (2 : Int) ^ 7 = 128 from rfl]
 by_cases c1 : x < 128
 ·rw [if_pos c1]
  refine ⟨Nat.le_refl 1, (show 1 <= 3 by decide), fun y hy => ?_, ?_, ?_⟩
  ·rw [List.mem_singleton.mp hy]; exact o325 h0 c1
  ·show (0 * 128 + x) % 64 = _; exact o366
  ·show (0 * 128 + x) / 64 = _; exact o367
 rw [if_neg c1]
 by_cases c2 : x < 128 * 128
 ·rw [if_pos c2]
  refine ⟨(show 1 <= 2 by decide), (show 2 <= 3 by decide), fun y hy => ?_, ?_, ?_⟩
  ·simp only [List.mem_cons, List.not_mem_nil, or_false] at hy
   rcases hy with rfl | rfl <;> omega
  ·show (((0 * 128 + x / 128) % 64) * 128 + x % 128) % 64 = _; exact o363
  ·show ((0 * 128 + x / 128) / 64) * 128 + (((0 * 128 + x / 128) % 64) * 128 + x % 128) / 64 = _; exact o364
 ·rw [if_neg c2]
  refine ⟨(show 1 <= 3 by decide), Nat.le_refl 3, fun y hy => ?_, ?_, ?_⟩
  ·simp only [List.mem_cons, List.not_mem_nil, or_false] at hy
   rcases hy with rfl | rfl | rfl <;> omega
  ·show (((((0 * 128 + x / 128 / 128) % 64) * 128 + x / 128 % 128) % 64) * 128 + x % 128) % 64 = _; exact o361
  ·show (((0 * 128 + x / 128 / 128) / 64) * 128 + (((0 * 128 + x / 128 / 128) % 64) * 128 + x / 128 % 128) / 64) * 128 + (((((0 * 128 + x / 128 / 128) % 64) * 128 + x / 128 % 128) % 64) * 128 + x % 128) / 64 = _; exact o362
noncomputable def dmAt (x : Int) (i : Nat) : Int × List Int := ((digs 7 x).reverse.take i).foldl q6e (0, [])
theorem q47 {x d : Int} {i : Nat} (h : (digs 7 x).reverse[i]? = some d) : dmAt x (i + 1) = q6e (dmAt x i) d := by
 unfold dmAt
 rw [List.take_add_one, h, List.foldl_append]; rfl
theorem q7z {x : Int} (h0 : 0 < x) (h1 : x < 262144) : ∀ i, 0 <= (dmAt x i).1 /\ (dmAt x i).1 < 64 /\ (∀ y ∈ (dmAt x i).2, 0 <= y /\ y < 262144) /\ (dmAt x i).2.length = min i (digs 7 x).length
 | 0 => ⟨Int.le_refl _, (by show (0 : Int) < 64; decide), (fun y hy => nomatch hy), (Nat.zero_min _).symm⟩
 | i + 1 => by
  (refine q2e (q7z h0 h1 i) fun a1 a2 a3 a4 => ?_)
  cases h : (digs 7 x).reverse[i]? with
  | none =>
   have hge : (digs 7 x).reverse.length <= i := List.getElem?_eq_none_iff.mp h
   have e : dmAt x (i + 1) = dmAt x i := by unfold dmAt; rw [List.take_of_length_le (by exact Nat.le_succ_of_le hge), List.take_of_length_le hge]
   rw [List.length_reverse] at hge
   rw [e]
   exact ⟨a1, a2, a3, by exact o223 a4 hge⟩
  | some d =>
   have hlt : i < (digs 7 x).length := by have := (List.getElem?_eq_some_iff.mp h).1; rw [List.length_reverse] at this; exact this
   have hd := (q9y h0 h1).2.2.1 d (List.mem_reverse.mp (List.mem_of_getElem? h))
   rw [q47 h]
   refine ⟨by show 0 <= _ % 64; exact o413, by show _ % 64 < 64; exact o412, fun y hy => ?_, ?_⟩
   ·rcases List.mem_append.mp hy with hy | hy
    ·exact a3 y hy
    ·rw [List.mem_singleton.mp hy]; exact o398 a1 a2 hd
   ·show (_ ++ [_]).length = _
    rw [List.length_append, List.length_singleton, a4]; exact o131 hlt
noncomputable def DmSt (x : Int) (Dq D : Addr) (T led : Led) (i : Nat) (m1 : Fm) (l1 : Led) : Prop :=
 l1 = (Dq, lsI (dmAt x i).2) :: (D, lsI (digs 7 x)) :: (T ++ led) /\ m1 (Str.ofString "r") = some (vI (dmAt x i).1) /\ m1 (Str.ofString "q_digits") = some (.ref Dq) /\ m1 (Str.ofString "n") = some (vI 7) /\ m1 (Str.ofString "b") = some (vI 64)
theorem Bd.drop {c : Cx} {m : Fm} {l : Led} {p : Addr × Obj} {ss : List Stmt} {P : Flow -> Shared -> Prop} (h : Bd c m l ss P) : Bd c m (p :: l) ss P := fun Q E s hE S k => h Q E s hE S.drop k
theorem dmpH {c : Cx} {m : Fm} {led T1 T2 : Led} {x : Int} (ok : c.Ok) (hT1 : TabL 61 q2d 45 4 T1) (hT2 : TabL 68 qd2 60 4 T2) (hx0 : 0 < x) (hx1 : x < 262144) (hd : c.dp + 20 < recursionLimit) :
  Cl c m (T1 ++ (T2 ++ led)) (.ref 80) [vI x, vI 64] (fun v l => ∃ t T1' T2', v = .ref t /\ TabL 61 q2d 45 4 T1' /\ TabL 68 qd2 60 4 T2' /\ l = (t, tpO [vI (x / 64), vI (x % 64)]) :: (T1' ++ (T2' ++ led))) := by
 refine' Cl.dfn [Str.ofString "a", Str.ofString "b"] ok ?ho ?hcd ?hroom ?hbind ?hloc ?z1 ?z2 ?z3 ?z4 ?h
 case ho => k_is
 case hcd => k_is
 case hroom => exact Nat.lt_of_le_of_lt (Nat.le_add_right _ _) hd
 case hbind =>
  intro s vs' hl
  (refine E_ee (ex2 hl) fun v1 v2 z1z => ?_; subst z1z)
  exact BindsTo.of_eq rfl
 case hloc => rfl
 case z1 => rfl
 case z2 => rfl
 case z3 => rfl
 case z4 => decide
 case h =>
 intro L' g okc hlt
 refine Bd.assign (v := vI 7) okc (Ev.to (Ev.bitlen (by wtm_at "ev") rfl) (by decide)) ?_ rfl rfl
 refine Bd.assignG okc (EvG.call okc (by wtm_at "ev") (fun v => q04) (by k_is) (by wtm_at "eva") (qdr okc hT1 (by exact Int.le_of_lt hx0) hx1 (.inr rfl) (by show c.dp + 1 + 10 < _; exact o111 hd)) rfl rfl rfl) (fun v l hv => ?_) rfl rfl
 (refine q08 hv fun D T1' z1z hT1' z2z => ?_; (try clear hv); subst z1z; subst z2z)
 refine Bd.assign okc Ev.int ?_ rfl rfl
 refine Bd.assignG okc (EvG.list EvA.nil (Nat.zero_le _)) (fun v l hv => ?_) rfl rfl
 (refine E_ea hv fun Dq z1z z2z => ?_; (try clear hv); subst z1z; subst z2z)
 (refine q2r (q9y hx0 hx1) fun p1 p2 p3 p4 p5 => ?_)
 refine Bd.forR (D := D) (vs := (digs 7 x).map vI) (DmSt x Dq D T1' (T2 ++ led)) okc rfl (by wtm_at "ev") (by wtm_at "ev") ?hD ⟨rfl, rfl, rfl, rfl, rfl⟩ ?turn ?done rfl rfl (fun v => rfl)
 case hD => (intro i; intro m1; intro _; intro z1y; refine E_a z1y fun z2z z3z => ?_; (try clear z1y); subst z2z; (try clear z3z)); exact ⟨1, rfl⟩
 case turn =>
  (intro i; intro v; intro m1; intro _; intro It; intro io; intro hv; intro hio; intro z1y; refine q2r z1y fun z2z g1 g2 g3 g4 => ?_; (try clear z1y); subst z2z)
  rw [<- List.map_reverse, List.getElem?_map, Option.map_eq_some_iff] at hv
  (refine E_ea hv fun d hd z1z => ?_; (try clear hv); subst z1z)
  have hdb := p3 d (List.mem_reverse.mp (List.mem_of_getElem? hd))
  (refine q2e (q7z hx0 hx1 i) fun b1 b2 b3 b4 => ?_)
  have hcl := fun m1 l1 => qhc (c := c.under _ _ L' 80 _ g []) (m := m1) (led := l1) (x := (dmAt x i).1 * 2 ^ (7 : Int).toNat + d) okc (by show 0 <= _ * 128 + d; exact o393 hdb b1) (by show _ * 128 + d < _; exact o394 hdb b2) (by show c.dp + 1 + 5 < _; exact o112 (by assumption))
  refine Bd.assignT okc (EvG.call okc (by wtm_at "ev") (fun v => q04) (by k_is) (EvA.cons rfl (Ev.add (Ev.shl (by wtm_at "ev") (by wtm_at "ev") (by decide) (kbm_shl (m := 64) (intBits_le_64 (by exact o342 b1) (by exact o356 b2)) (by decide) (by decide))) (by wtm_at "ev")) (by wtm_at "eva")) (hcl _ _) rfl rfl rfl) rfl rfl (fun v l hv => ?_) rfl rfl
  (refine E_ea hv fun t z1z z2z => ?_; (try clear hv); subst z1z; subst z2z)
  refine ⟨t, 0, _, _, rfl, rfl, Bd.drop ?_⟩
  refine Bd.expr (EvG.append (R := Same (vI (((dmAt x i).1 * 128 + d) / 64)) ((It, io) :: (Dq, lsI (dmAt x i).2) :: (D, lsI (digs 7 x)) :: (T1' ++ (T2 ++ led)))) (R' := fun _ l => l = (It, io) :: (Dq, lsI (dmAt x (i + 1)).2) :: (D, lsI (digs 7 x)) :: (T1' ++ (T2 ++ led))) (vs := (dmAt x i).2.map vI) (by wtm_at "ev") (Ev.g (by wtm_at "ev")) ?q2 ⟨_, by wtm_at "at"⟩ (by rw [List.length_map, b4]; have h3 : sizeLine = 16777216 := rfl; omega) rfl rfl) (fun v l hv => ?q4) rfl rfl
  case q2 =>
   (intro _; intro _; intro z1y; refine E_a z1y fun z2z z3z => ?_; (try clear z1y); subst z2z; subst z3z)
   refine ⟨1, rfl, ?_⟩
   rw [q47 hd]
   show _ = (It, io) :: (Dq, lsO (((dmAt x i).2 ++ [_]).map vI)) :: _
   rw [List.map_append]
   rfl
  case q4 =>
   subst hv
   refine Bd.nil fun s S => ⟨.inl rfl, _, _, ?_, S⟩
   refine ⟨rfl, ?_, g2, g3, g4⟩
   rw [q47 hd]
   rfl
 case done =>
  (intro m1; intro _; intro z1y; refine q2r z1y fun z2z g1 g2 g3 g4 => ?_; (try clear z1y); subst z2z)
  (refine q2e (q7z hx0 hx1 (digs 7 x).length) fun b1 b2 b3 b4 => ?_)
  have e0 : dmAt x (digs 7 x).length = (digs 7 x).reverse.foldl q6e (0, []) := by unfold dmAt; rw [List.take_of_length_le (by rw [List.length_reverse]; exact Nat.le_refl _)]
  rw [List.length_map] at g1 ⊢
  refine Bd.expr (EvG.rev (vs := (dmAt x (digs 7 x).length).2.map vI) (i := 0) (by wtm_at "ev") q3e (by rw [List.length_map, b4]; have h3 : sizeLine = 16777216 := rfl; omega) rfl) (fun v l hv => ?_) rfl rfl
  subst hv
  rw [<- List.map_reverse]
  have hperm : ((Dq, lsI (dmAt x (digs 7 x).length).2.reverse) :: (D, lsI (digs 7 x)) :: (T1' ++ (T2 ++ led))).Perm (T2 ++ ((Dq, lsI (dmAt x (digs 7 x).length).2.reverse) :: (D, lsI (digs 7 x)) :: (T1' ++ led))) := by
   exact List.perm_append_comm_assoc ((Dq, lsI (dmAt x (digs 7 x).length).2.reverse) :: (D, lsI (digs 7 x)) :: T1') T2 led
  refine Bd.assignG okc (EvG.call okc (by wtm_at "ev") (fun v => q04) (by k_is) (by wtm_at "eva") (Cl.perm hperm (d2iH (iD := 0) (ns := (dmAt x (digs 7 x).length).2.reverse) okc hT2 rfl (by rw [List.length_reverse, b4]; exact o26 p1 p2) (fun y hy => b3 y (List.mem_reverse.mp hy)) (by show c.dp + 1 + 10 < _; exact o111 hd))) rfl rfl rfl) (fun v l hv => ?_) rfl rfl
  (refine q1u hv fun T2' z1z hT2' z2z => ?_; (try clear hv); subst z1z; subst z2z)
  refine Bd.ret (EvG.tup (by wtm_at "eva") (by show 2 <= _; decide)) ?_
  (intro v; intro l; intro s; intro z1y; refine E_ea z1y fun t hv z2z => ?_; (try clear z1y); subst z2z; intro S)
  have q1 : valD (dmAt x (digs 7 x).length).2.reverse (dmAt x (digs 7 x).length).2.reverse.length 0 = x / 64 := by
   rw [List.length_reverse, b4, Nat.min_self, e0]; exact p5
  have q2 : (dmAt x (digs 7 x).length).1 = x % 64 := by rw [e0]; exact p4
  rw [q1, q2] at S
  refine ⟨_, _, SS.pick ((t, tpO [vI (x / 64), vI (x % 64)]) :: (T2' ++ (T1' ++ led))) S ?_ ?_, t, T1', T2', hv, hT1', hT2', rfl⟩
  ·refine List.Sublist.cons_cons _ (List.Sublist.append (List.Sublist.refl _) ?_)
   exact (List.sublist_cons_self _ _).trans (List.sublist_cons_self _ _)
  ·exact List.Perm.cons _ (List.perm_append_comm_assoc T2' T1' led)
theorem idmH {c : Cx} {m : Fm} {led T1 T2 : Led} {x : Int} (ok : c.Ok) (hT1 : TabL 61 q2d 45 4 T1) (hT2 : TabL 68 qd2 60 4 T2) (hx0 : 0 < x) (hx1 : x < 262144) (hd : c.dp + 25 < recursionLimit) :
  Cl c m (T1 ++ (T2 ++ led)) (.ref 87) [vI x, vI 64] (fun v l => ∃ t T1' T2', v = .ref t /\ TabL 61 q2d 45 4 T1' /\ TabL 68 qd2 60 4 T2' /\ l = (t, tpO [vI (x / 64), vI (x % 64)]) :: (T1' ++ (T2' ++ led))) := by
 refine' Cl.dfn [Str.ofString "a", Str.ofString "b"] ok ?ho ?hcd ?hroom ?hbind ?hloc ?z1 ?z2 ?z3 ?z4 ?h
 case ho => k_is
 case hcd => k_is
 case hroom => exact room (j := 0) hd (by decide)
 case hbind =>
  intro s vs' hl
  (refine E_ee (ex2 hl) fun v1 v2 z1z => ?_; subst z1z)
  exact BindsTo.of_eq rfl
 case hloc => rfl
 case z1 => rfl
 case z2 => rfl
 case z3 => rfl
 case z4 => decide
 case h =>
 intro L' g okc hlt
 refine Bd.ite (Tb.eq (by wtm_at "ev") (by wtm_at "ev") rfl) (fun hb => absurd hb (by decide)) (fun _ => ?_)
 refine Bd.ite (Tb.lt (by wtm_at "ev") (by wtm_at "ev") rfl) (fun hb => absurd hb (by decide)) (fun _ => ?_)
 refine Bd.ite (Tb.lt (by wtm_at "ev") (by wtm_at "ev") rfl) (fun hb => absurd (of_decide_eq_true hb) (Int.not_lt.mpr (Int.le_of_lt hx0))) (fun _ => ?_)
 refine Bd.ret (EvG.call okc (by wtm_at "ev") (fun v => q04) (by k_is) (by wtm_at "eva") (dmpH okc hT1 hT2 hx0 hx1 (room (j := 1 + 20) hd (by decide))) rfl rfl rfl) ?_
 rintro v l s hv S
 exact ⟨_, _, S, hv⟩
section
theorem Bd.sub {c : Cx} {m : Fm} {l l2 : Led} {ss : List Stmt} {P : Flow -> Shared -> Prop} (hs : l2.Sublist l) (h : Bd c m l2 ss P) : Bd c m l ss P := Bd.pick l2 hs (.refl _) h
theorem SS.sublist {c : Cx} {m : Fm} {l l2 : Led} {s : Shared} (hs : l2.Sublist l) (h : SS c m l s) : SS c m l2 s := h.pick l2 hs (.refl _)
theorem units {n k j : Nat} (h : n + k < cLine) (hj : j <= k) : n + j < cLine := Nat.lt_of_le_of_lt (Nat.add_le_add_left hj n) h
section
variable {c : Cx} {m : Fm} {l ex : Led} {F : FX} {σ : FZ}
theorem ChE.last {its : List Value} {chi : List (Str × Str)} {f p : Str} (h : ChE ex its (chi ++ [(f, p)])) : ∃ init t, its = init ++ [.ref t] /\ ChE ex init chi /\ (t, tpO [.str f 0, .str p 0]) ∈ ex := by
 induction its generalizing chi with
 | nil => cases chi <;> exact h.elim
 | cons v its ih =>
  cases chi with
  | nil =>
   cases its with
   | nil => (refine E_a h fun z1z z2z => ?_; (try clear h); obtain ⟨t, rfl, hm⟩ := z1z; (try clear z2z)); exact ⟨[], t, rfl, trivial, hm⟩
   | cons _ _ => exact h.2.elim
  | cons q chi =>
   (refine q08 (ih (chi := chi) h.2) fun init t z1z h1 h2 => ?_; subst z1z)
   exact ⟨v :: init, t, rfl, ⟨h.1, h1⟩, h2⟩
theorem ChE.snoc {its : List Value} {chs : List (Str × Str)} {t : Addr} {f p : Str} (h : ChE ex its chs) (hm : (t, tpO [.str f 0, .str p 0]) ∈ ex) : ChE ex (its ++ [.ref t]) (chs ++ [(f, p)]) := All2.snoc ⟨t, rfl, hm⟩ h
theorem FL.fmt {name : Str} {v : Value} {a : Expr} {pos : Pos} (ok : c.OkG) (hF : F.Ok) (hl : FL F σ ex l) (ha : Ev c m l a (.ref F.fo)) (hg : plainGet (Mine.hd.heap_1 c.w.params) 165 name = true) (hk : findIn (Mine.hd.heap_1 c.w.params) (.ref 165) name = some none) (hd : hasDictIn (Mine.hd.heap_1 c.w.params) 165 = true)
  (hw : ∀ K, ∃ n es w, fmtD K F.Wd F.sp F.ll F.a1 = dictOf es n /\ getL name es = some (some w) /\ handedIn w = true /\ eV w = v)
  (hA : eval (.Attribute a name pos) c.env = (do let o <- eval a c.env; standAt pos.atName; let r <- holding [o] (getAttr o name true); letTemporaryGo a o r; pure r)) : Ev c m l (.Attribute a name pos) v := by
 (refine q09 hl fun dz pa pb h1 h2 h3 z1z => ?_; (try clear hl); subst z1z)
 (refine E_e hF fun K hK => ?_; (try clear hF))
 (refine q09 (hw K) fun n es w e1 e2 e3 e4 => ?_)
 exact Ev.fget (i := 0) (j := 1) ok ha rfl (by rw [<- e1, <- hK]; rfl) hg hk hd e2 e3 e4 hA
theorem Ev.cur {a : Expr} {pos : Pos} (ok : c.OkG) (hF : F.Ok) (hl : FL F σ ex l) (ha : Ev c m l a (.ref F.fo))
  (hA : eval (.Attribute a (Str.ofString "_current_line") pos) c.env = (do let o <- eval a c.env; standAt pos.atName; let r <- holding [o] (getAttr o (Str.ofString "_current_line") true); letTemporaryGo a o r; pure r)) : Ev c m l (.Attribute a (Str.ofString "_current_line") pos) (.ref F.a1) :=
 FL.fmt ok hF hl ha (by k_is) (by k_is) (by k_is) (fun K => ⟨_, _, _, rfl, rfl, rfl, rfl⟩) hA
theorem Ev.lines {a : Expr} {pos : Pos} (ok : c.OkG) (hF : F.Ok) (hl : FL F σ ex l) (ha : Ev c m l a (.ref F.fo))
  (hA : eval (.Attribute a (Str.ofString "_lines") pos) c.env = (do let o <- eval a c.env; standAt pos.atName; let r <- holding [o] (getAttr o (Str.ofString "_lines") true); letTemporaryGo a o r; pure r)) : Ev c m l (.Attribute a (Str.ofString "_lines") pos) (.ref F.ll) :=
 FL.fmt ok hF hl ha (by k_is) (by k_is) (by k_is) (fun K => ⟨_, _, _, rfl, rfl, rfl, rfl⟩) hA
theorem ClK.mono {l : Led} {f : Value} {vs : List Value} {R R' : Value -> Led -> Prop} (h : ClK c m l f vs R) (hr : ∀ v l, R v l -> R' v l) : ClK c m l f vs R' := fun vs' Q E s S hv k => h vs' Q E s S hv fun v l s' r S' => k v l s' (hr _ _ r) S'
theorem Bd.iteGJ {test : Expr} {body orelse : List Stmt} {t : Bool} {R : Led -> Prop} {pos : Pos} {rest : List Stmt} {P : Flow -> Shared -> Prop} (I : Fm -> Led -> Prop) (ht : TbG c m l test t R) (h1 : t = true -> ∀ l2, R l2 -> Bd c m l2 body (JP c I)) (h2 : t = false -> ∀ l2, R l2 -> Bd c m l2 orelse (JP c I)) (hr : ∀ m l, I m l -> Bd c m l rest P) : Bd c m l (.If test body orelse pos :: rest) P := by
 have fin : ∀ f s, JP c I f s -> q3t c rest P f s := by
  (intro _; intro s; intro z1y; refine q1i z1y fun z2z m2 l2 hI S => ?_; (try clear z1y); subst z2z)
  exact fun Q E hE k => hr m2 l2 hI Q E s hE S k
 exact Bd.iteG ht (fun h l2 hR => (h1 h l2 hR).mono fin) fun h l2 hR => (h2 h l2 hR).mono fin
theorem EvG.accF {name : Str} {f : Addr} {a : Expr} {es : List Expr} {vs : List Value} {R : Value -> Led -> Prop} {pl : Sem Bool} {ap pos : Pos} (ok : c.OkG) (hl : FL F σ ex l) (ha : Ev c m l a (.ref F.a1))
  (hf : findIn (Mine.hd.heap_1 c.w.params) (.ref 249) name = some (some (.ref f))) (ht : isFn (Mine.hd.heap_1 c.w.params) (.ref f) = true) (hk : keepIn (Mine.hd.heap_1 c.w.params) (.ref f) = true) (hnm : ∀ hs ts w, getL name [⟨hs, .str q0o ts, w⟩] = some none)
  (ha2 : EvA c m l es vs) (hcl : Cl c m l (.ref f) (.ref F.a1 :: vs) R)
  (hc : eval (.Call (.Attribute a name ap) es [] pos) c.env = (do let ov <- eval a c.env; standAt ap.atName; let (f, first) <- holding [ov] (getMethod ov name pl); callWith pos f first (backTo pos (starEach es c.env)) []))
  (hp : (backTo pos (starEach es c.env)).any (·.1) = false) : EvG c m l (.Call (.Attribute a name ap) es [] pos) R := by
 (refine q1i (hl.atA) fun h1 j dz h2 hz1 => ?_)
 exact EvG.accM ok ha h1 h2 hz1 hf ht hnm hk ha2 hcl hc hp
theorem q8u {chs : List (Str × Str)} (ok : c.OkG) (bare : c.Bare) (hF : F.Ok) (hl : FL F σ ex l) (hC : ChE ex σ.its chs) (hz : σ.its.length <= 500) (hln : σ.lines.length <= 500) (hsz : 0 <= σ.sz /\ σ.sz + csum chs < 100000) (hok : ∀ q ∈ chs, PyData.strOk q.1 = true /\ PyData.strOk q.2 = true /\ q.2 ≠ Str.ofString "")
  (hp : chs ≠ [] ∨ 0 < σ.sz) (hws : σ.sz = 0 -> Txt.isspace (q0m chs) = false) (hd : c.dp + 60 < recursionLimit) (hu : c.un + 1000 < cLine) :
  Cl c m l (.ref 127) [.ref F.fo] (fun v l' => v = .none /\ FL F ⟨[], σ.lines ++ [.str (q0m chs) 0], 0⟩ ex l') := by
 refine' Cl.dfnD [Str.ofString "self"] [] ok ?ho ?hcd ?hroom ?hbind ?hloc ?z1 ?z2 ?z3 ?z4 ?h
 case ho => k_is
 case hcd => k_is
 case hroom => exact room (j := 0) hd (by decide)
 case hbind =>
  intro s vs' _ hl
  (refine E_e (ex1 hl) fun v1 z1z => ?_; subst z1z)
  exact BindsTo.of_eq rfl
 case hloc => rfl
 case z1 => rfl
 case z2 => rfl
 case z3 => rfl
 case z4 => decide
 case h =>
 intro L' g okc hlt
 have hd1 : c.dp + 1 + 59 < recursionLimit := hd
 have hu1 : c.un + 3 + 900 < cLine := Nat.lt_of_le_of_lt (by rw [Nat.add_assoc]; exact Nat.add_le_add_left (by decide) _) hu
 refine Bd.assignG okc (R := fun v l' => ∃ T ex' init chi f1 p1, v = .ref T /\ FL F ⟨init, σ.lines, σ.sz⟩ ex' l' /\ ex.Sublist ex' /\ (T, tpO [.str f1 0, .str p1 0]) ∈ l' /\ PyData.strOk f1 = true /\ PyData.strOk p1 = true /\ (p1 ≠ Str.ofString "" ∨ f1 ≠ Str.ofString " ") /\ ChE ex init chi /\ q0m (chi ++ [(f1, p1)]) = q0m chs /\ csum (chi ++ [(f1, p1)]) = csum chs /\ (chs ≠ [] -> chi ++ [(f1, p1)] = chs /\ p1 ≠ Str.ofString "") /\ init.length <= 500) ?epop (fun v l hv => ?_) rfl rfl
 case epop =>
  rcases List.eq_nil_or_concat chs with rfl | ⟨chi, ⟨fz, pz⟩, rfl⟩
  ·have hi0 : σ.its = [] := List.length_eq_zero_iff.mp hC.len
   refine (EvG.accF okc.toOkG hl (Ev.cur okc.toOkG hF hl (by wtm_at "ev") (by with_unfolding_all rfl)) (by k_is) (by k_is) (by k_is) (by intros; rfl) EvA.nil (qgz okc.toOkG hl hi0 (room hd1 (by decide)) (units hu1 (by decide))) rfl rfl).mono ?_
   (intro _; intro l2; intro z1y; refine q10 z1y fun D ex' z2z hm hs hl2 => ?_; (try clear z1y); subst z2z)
   refine ⟨D, ex', [], [], "", "", rfl, ?_, hs, hm, by decide +kernel, by decide +kernel, .inr (by decide), trivial, by decide, by decide, fun h => (h rfl).elim, Nat.zero_le _⟩
   rw [<- hi0]; exact hl2
  ·rw [List.concat_eq_append] at *
   (refine q08 (hC.last) fun init t hi hC1 hm => ?_)
   have hok1 := hok (fz, pz) (List.mem_append_right _ (.head _))
   have hzi : init.length <= 500 := by rw [hi, List.length_append] at hz; exact Nat.le_of_succ_le hz
   refine (EvG.accF okc.toOkG hl (Ev.cur okc.toOkG hF hl (by wtm_at "ev") (by with_unfolding_all rfl)) (by k_is) (by k_is) (by k_is) (by intros; rfl) EvA.nil (qgc okc.toOkG hl hi (Nat.le_trans hzi (by decide)) (room hd1 (by decide)) (units hu1 (by decide))) rfl rfl).mono ?_
   (intro _; intro l2; intro z1y; refine E_a z1y fun z2z hl2 => ?_; (try clear z1y); subst z2z)
   exact ⟨t, ex, init, chi, fz, pz, rfl, hl2, .refl _, hl2.mem hm, hok1.1, hok1.2.1, .inl hok1.2.2, hC1, rfl, rfl, fun _ => ⟨rfl, hok1.2.2⟩, hzi⟩
 (refine q2m hv fun T ex' init chi f1 p1 z1z hl2 hsub hT hs1 hs2 hne hC2 hct hcs hch hzi => ?_; (try clear hv); subst z1z)
 clear hC hl hz hok
 (refine E_e (q16 hT) fun jT hjT => ?_)
 refine Bd.iteJ (fun m2 l2 => ∃ D ex2, FL F ⟨init ++ [.ref D], σ.lines, σ.sz⟩ ex2 l2 /\ ex'.Sublist ex2 /\ (D, tpO [.str f1 0, .str p1 0]) ∈ ex2 /\ m2 (Str.ofString "self") = some (.ref F.fo)) (TbG.neBlank (i := jT) (by wtm_at "ev") hjT hs1 hs2 hne (units hu1 (by decide)) (EvA.cons rfl Ev.strc (EvA.cons rfl Ev.strc EvA.nil)) rfl) (fun _ => ?_) (fun hb => by cases hb) ?_
 ·refine Bd.expr (EvG.accPush (R := fun v l2 => v = .none /\ ∃ D ex2, FL F ⟨init ++ [.ref D], σ.lines, σ.sz⟩ ex2 l2 /\ ex'.Sublist ex2 /\ (D, tpO [.str f1 0, .str p1 0]) ∈ ex2) okc.toOkG (Ev.cur okc.toOkG hF hl2 (by wtm_at "ev") (by with_unfolding_all rfl)) hl2.atA (fun p => by wtm_at "ev") hjT (fun p => ?_) (by with_unfolding_all rfl) rfl) (fun v l3 hv => Bd.nil fun s S => ⟨rfl, _, _, ?_, S⟩) rfl rfl
  ·(refine E_ea (hl2.add p) fun l4 hl4 hp4 => ?_)
   refine ClK.perm hp4 (ClK.mono (qfq okc.toOkG hl4 (Nat.le_trans hzi (by decide)) (room hd1 (by decide))) ?_)
   (intro _; intro l5; intro z1y; refine E_ae z1y fun z2z D hl5 => ?_; (try clear z1y); subst z2z)
   exact ⟨rfl, D, _, hl5, .cons _ (.cons _ (.refl _)), .head _⟩
  ·(refine q84 hv fun z1z D ex2 h1 h2 h3 => ?_; (try clear hv); (try clear z1z))
   exact ⟨D, ex2, h1, h2, h3, rfl⟩
 (intro m2; intro l2; intro z1y; refine q10 z1y fun D ex2 hl3 hsub2 hD hm2 => ?_; (try clear z1y))
 have hC3 : ChE ex2 (init ++ [.ref D]) (chi ++ [(f1, p1)]) := (hC2.mono fun p hp => hsub2.subset (hsub.subset hp)).snoc hD
 have hz3 : (init ++ [Value.ref D]).length <= 1000 := by rw [List.length_append]; exact Nat.le_trans (Nat.add_le_add_right hzi 1) (by decide)
 have hcn : 0 <= csum chs := q1j chs
 have hpos : 0 < σ.sz + csum chs := by
  rcases hp with h | h
  ·(refine E_a (hch h) fun e1 e2 => ?_)
   have := qdn e1.symm e2
   omega
  ·exact o400 hcn h
 have hsz2 : 0 <= σ.sz /\ σ.sz + csum (chi ++ [(f1, p1)]) < 1000000 := by rw [hcs]; exact ⟨hsz.1, by exact o389 hsz⟩
 have hz4 : (init ++ [Value.ref D]).length + ([] : List Value).length <= 900 := by rw [List.length_append]; exact Nat.le_trans (Nat.add_le_add_right hzi 1) (by decide)
 rw [<- hcs] at hpos
 have hln2 : 0 <= σ.sz + csum (chi ++ [(f1, p1)]) /\ σ.sz + csum (chi ++ [(f1, p1)]) < 2 ^ 63 := ⟨by exact Int.le_of_lt hpos, by exact o415 hsz hcs⟩
 refine Bd.iteGJ (fun m3 l3 => FL F ⟨init ++ [.ref D], σ.lines ++ [.str (q0m chs) 0], σ.sz⟩ ex2 l3 /\ m3 (Str.ofString "self") = some (.ref F.fo))
  (TbG.gt (EvG.lenA okc.toOkG (by wtm_at "ev") (Ev.cur okc.toOkG hF hl3 (Ev.name okc rfl rfl hm2) (by with_unfolding_all rfl)) hl3.atA (lenH okc.toOkG.up bare hl3 (hC3.mono fun p hp => hl3.mem hp) hz3 hsz2 (room hd1 (by decide)) (units hu1 (j := 1 + 200) (by decide))) hln2 rfl rfl) (fun _ _ => Ev.int) rfl) (fun _ l4 hl4 => ?_) (fun hb => absurd (of_decide_eq_false hb) (fun h => h hpos)) ?_
 ·refine Bd.iteG (TbG.andF (TbG.bool (EvG.accF okc.toOkG hl4 (Ev.cur okc.toOkG hF hl4 (Ev.name okc rfl rfl hm2) (by with_unfolding_all rfl)) (by k_is) (by k_is) (by k_is) (by intros; rfl) EvA.nil (qh5 okc.toOkG bare hl4 hC3 hz3 hsz2 (fun h0 => ⟨by have h0' : σ.sz = 0 := h0; omega, by rw [hct]; exact hws h0⟩) (room hd1 (by decide)) (units hu1 (by decide))) rfl rfl) rfl)) (fun hb => by cases hb) (fun _ l5 hl5 => ?_)
  refine Bd.expr (EvG.append (D := F.ll) (vs := σ.lines) (R := fun v l' => v = .str (q0m (chi ++ [(f1, p1)])) 0 /\ FL F ⟨init ++ [.ref D], σ.lines, σ.sz⟩ ex2 l') (R' := fun _ l' => FL F ⟨init ++ [.ref D], σ.lines ++ [.str (q0m chs) 0], σ.sz⟩ ex2 l') (Ev.lines okc.toOkG hF hl5 (Ev.name okc rfl rfl hm2) (by with_unfolding_all rfl))
   (EvG.strA okc.toOkG (units hu1 (by decide)) (by wtm_at "ev") (Ev.cur okc.toOkG hF hl5 (Ev.name okc rfl rfl hm2) (by with_unfolding_all rfl)) hl5.atA (strH okc.toOkG.up.up bare hl5 (hC3.mono fun p hp => hl5.mem hp) hz3 (by rw [hcs]; exact o392 hsz) (room hd1 (by decide)) (units hu1 (j := 2 + 200) (by decide))) rfl rfl) ?_ ?_ (Nat.le_trans hln (by decide)) (by with_unfolding_all rfl) rfl) (fun v l6 hl6 => Bd.fall (Bd.nil fun s S => ⟨rfl, _, _, ⟨hl6, hm2⟩, S⟩)) rfl rfl
  ·(intro _; intro l6; intro z1y; refine q63 z1y fun z2z dz pa pb g1 g2 g3 z3z => ?_; (try clear z1y); subst z2z; subst z3z)
   exact ⟨4, rfl, dz, pa, pb, g1, g2, g3, by rw [hct]; rfl⟩
  ·(refine q09 hl5 fun dz pa pb g1 g2 g3 z1z => ?_; (try clear hl5); subst z1z)
   exact ⟨4, rfl⟩
 (intro m3; intro l3; intro z1y; refine E_a z1y fun hl6 hm3 => ?_; (try clear z1y))
 refine Bd.expr (EvG.accF okc.toOkG hl6 (Ev.cur okc.toOkG hF hl6 (Ev.name okc rfl rfl hm3) (by with_unfolding_all rfl)) (by k_is) (by k_is) (by k_is) (by intros; rfl) EvA.nil (qdo (vs := []) (j := 0) (B := 0) okc.toOkG hl6 hz4 (.inl ⟨rfl, rfl⟩) (room hd1 (by decide))) rfl rfl) (fun v l7 hv => ?_) rfl rfl
 (refine E_a hv fun z1z hl7 => ?_; (try clear hv); (try clear z1z))
 (refine E_ea (hl7.sub (hsub.trans hsub2)) fun l8 hl8 hs8 => ?_)
 exact Bd.nil fun s S => ⟨_, _, S.sublist hs8, rfl, hl8⟩
end
end
noncomputable def OctI (ns : List Int) (ol nl : Addr) (led : Led) (i : Nat) (m1 : Fm) (l1 : Led) : Prop :=
 ∃ T, l1 = (ol, lsI (q01 (ns.take i))) :: (T ++ led) /\ TabL 61 q2d 45 4 T /\ m1 (Str.ofString "octets") = some (.ref ol) /\ m1 (Str.ofString "numbers") = some (.ref nl)
theorem qbf {ns : List Int} {i : Nat} {x : Int} (h : ns[i]? = some x) : q01 (ns.take (i + 1)) = q01 (ns.take i) ++ ((dig1 x).drop 1).reverse.map (· + 64) ++ [(dig1 x).headD 0] := by
 unfold q01
 rw [List.take_add_one, h, List.flatMap_append, List.append_assoc]
 show _ ++ (q0w x ++ []) = _
 rw [List.append_nil]; rfl
theorem qai {x : Int} : 1 <= (dig1 x).length /\ (dig1 x).length <= 3 := by
 have h := qd6 x
 unfold dig1
 by_cases e : digs 6 x = []
 ·rw [if_pos e]; exact ⟨Nat.le_refl 1, (show 1 <= 3 by decide)⟩
 ·rw [if_neg e]; exact ⟨List.length_pos_iff.mpr e, h⟩
theorem octH {c : Cx} {m : Fm} {led T : Led} {j : Nat} {nl : Addr} {ns : List Int} (ok : c.Ok) (hT : TabL 61 q2d 45 4 T) (hnl : led[j]? = some (nl, lsI ns)) (hn : ns.length <= 63) (hx : ∀ x ∈ ns, 0 <= x /\ x < 262144) (hd : c.dp + 20 < recursionLimit) (hu : c.un + 200 < cLine) :
  Cl c m (T ++ led) (.ref 265) [.ref nl] (fun v l => ∃ ol T', v = .ref ol /\ TabL 61 q2d 45 4 T' /\ l = (ol, lsI (q01 ns)) :: (T' ++ led)) := by
 refine' Cl.dfn [Str.ofString "numbers"] ok ?ho ?hcd ?hroom ?hbind ?hloc ?z1 ?z2 ?z3 ?z4 ?h
 case ho => k_is
 case hcd => k_is
 case hroom => exact room (j := 0) hd (by decide)
 case hbind =>
  intro s vs' hl
  (refine E_e (ex1 hl) fun v1 z1z => ?_; subst z1z)
  exact BindsTo.of_eq rfl
 case hloc => rfl
 case z1 => rfl
 case z2 => rfl
 case z3 => rfl
 case z4 => decide
 case h =>
 intro L' g okc hlt
 have hu2 : c.un + 3 + 100 < cLine := Nat.lt_of_le_of_lt (by rw [Nat.add_assoc]; exact Nat.add_le_add_left (by decide) _) hu
 refine Bd.assignG okc (EvG.list EvA.nil (Nat.zero_le _)) (fun v l hv => ?_) rfl rfl
 (refine E_ea hv fun ol z1z z2z => ?_; (try clear hv); subst z1z; subst z2z)
 refine Bd.forL (D := nl) (vs := ns.map vI) (OctI ns ol nl led) okc rfl (by wtm_at "ev") ?hD ⟨T, rfl, hT, rfl, rfl⟩ ?turn ?done (fun v => rfl)
 case hD => (intro i; intro m1; intro _; intro z1y; refine E_ea z1y fun T1 z2z z3z => ?_; (try clear z1y); subst z2z; (try clear z3z)); exact ⟨_, by wtm_at "at"⟩
 case turn =>
  rintro i v m1 _ It io hv - ⟨T1, rfl, hT1, g1, g2⟩
  rw [List.getElem?_map, Option.map_eq_some_iff] at hv
  (refine E_ea hv fun x hxi z1z => ?_; (try clear hv); subst z1z)
  have hxx := hx x (List.mem_of_getElem? hxi)
  have hil : i < ns.length := (List.getElem?_eq_some_iff.mp hxi).1
  have hcl := fun m1 l1 => qdr (c := c.under _ _ L' 265 _ g []) (m := m1) (led := l1) okc hT1 hxx.1 hxx.2 (.inl rfl) (room (j := 1 + 10) hd (by decide))
  refine Bd.assignG okc (EvG.call okc (by wtm_at "ev") (fun v => q04) (by k_is) (by wtm_at "eva") (Cl.perm (List.perm_append_comm_assoc [_, _] T1 led) (hcl _ _)) rfl rfl rfl) (fun v l hv => ?_) rfl rfl
  (refine q08 hv fun r T2 z1z hT2 z2z => ?_; (try clear hv); subst z1z; subst z2z)
  refine Bd.perm (.cons _ (List.perm_append_comm_assoc T2 [_, _] led)) ?_
  refine Bd.iteJ (fun m2 l2 => ∃ r2, l2 = (r2, lsI (dig1 x)) :: (It, io) :: (ol, lsI (q01 (ns.take i))) :: (T2 ++ led) /\ m2 (Str.ofString "digits") = some (.ref r2) /\ m2 (Str.ofString "octets") = some (.ref ol) /\ m2 (Str.ofString "numbers") = some (.ref nl)) (Tb.eq0 (i := 0) (vs := (digs 6 x).map vI) (by wtm_at "ev") rfl hu2 rfl) (fun hb => ?_) (fun hb => Bd.nil fun s S => ⟨rfl, updM (updM m1 (Str.ofString "number") (vI x)) (Str.ofString "digits") (.ref r), (r, lsI (dig1 x)) :: (It, io) :: (ol, lsI (q01 (ns.take i))) :: (T2 ++ led), ⟨r, rfl, rfl, g1, g2⟩, ?_⟩) ?_
  ·have h0 : digs 6 x = [] := List.map_eq_nil_iff.mp (of_decide_eq_true hb)
   refine Bd.assignG okc (EvG.list (vs := [vI 0]) (by wtm_at "eva") (by show 1 <= _; decide)) (fun v l hv => Bd.nil fun s S => ?_) rfl rfl
   (refine E_ea hv fun r2 z1z z2z => ?_; (try clear hv); subst z1z; subst z2z)
   refine ⟨rfl, updM (updM (updM m1 (Str.ofString "number") (vI x)) (Str.ofString "digits") (.ref r)) (Str.ofString "digits") (.ref r2), (r2, lsI (dig1 x)) :: (It, io) :: (ol, lsI (q01 (ns.take i))) :: (T2 ++ led), ⟨r2, rfl, rfl, g1, g2⟩, ?_⟩
   unfold dig1
   rw [if_pos h0]; exact S.drop2
  ·have h0 : digs 6 x ≠ [] := fun q => of_decide_eq_false hb (List.map_eq_nil_iff.mpr q)
   unfold dig1
   rw [if_neg h0]; exact S
  (intro m2; intro _; intro z1y; refine q3l z1y fun r2 z2z f1 f2 f3 => ?_; (try clear z1y); subst z2z)
  (refine E_a (qai (x := x)) fun d1 d2 => ?_)
  have hol : (q01 (ns.take i)).length < 900 := by
   have h := q2b (ns.take i)
   rw [List.length_take] at h
   omega
  refine Bd.ext (i0 := 2) (vs := (q01 (ns.take i)).map vI) (R := fun v l => ∃ cl dl, v = .ref cl /\ l = (cl, lsI (((dig1 x).drop 1).reverse.map (· + 64))) :: (dl, lsI ((dig1 x).drop 1)) :: (r2, lsI (dig1 x)) :: (It, io) :: (ol, lsI (q01 (ns.take i))) :: (T2 ++ led)) (by wtm_at "ev") rfl ?ecomp (by rw [List.length_map]; exact Nat.lt_trans hol (by decide)) ?eafter rfl rfl rfl
  case eafter =>
   (intro _; intro _; intro z1y; refine q07 z1y fun cl dl z2z z3z => ?_; (try clear z1y); subst z2z; subst z3z)
   refine ⟨cl, 4, 0, _, rfl, rfl, rfl, ?_, ?_⟩
   ·rw [List.length_map, List.length_map, List.length_reverse, List.length_drop]; exact Nat.lt_of_le_of_lt (Nat.le_trans (Nat.sub_le _ _) d2) (by decide)
   have hh : ((dig1 x).map vI)[(0 : Int).toNat]? = some (vI ((dig1 x).headD 0)) := by
    rw [List.getElem?_map]
    cases e : dig1 x with
    | nil => rw [e] at d1; exact absurd d1 (by decide)
    | cons y ys => rfl
   refine Bd.app (i := 4) (vs := (q01 (ns.take i)).map vI ++ (((dig1 x).drop 1).reverse.map (· + 64)).map vI) (v := vI ((dig1 x).headD 0)) (by wtm_at "ev") (Ev.item (i := 2) (vs := (dig1 x).map vI) (by wtm_at "ev") (by wtm_at "ev") rfl (by decide) (by decide) hh (by intro u; rfl)) rfl ?_ (Bd.nil fun s S => ?_) rfl rfl rfl
   ·rw [List.length_append, List.length_map, List.length_map, List.length_map, List.length_reverse, List.length_drop]
    exact o168 d2 hol
   refine ⟨.inl rfl, _, _, ⟨T2, rfl, hT2, f2, f3⟩, ?_⟩
   rw [qbf hxi, q3y, List.map_append]
   exact S.drop.drop.drop
  case ecomp =>
   refine EvG.comp1 (cl := []) (W := fun It2 io2 l => ∃ dl, l = (dl, lsI ((dig1 x).drop 1)) :: (r2, lsI (dig1 x)) :: (It, io) :: (ol, lsI (q01 (ns.take i))) :: (T2 ++ led) /\ ITr dl (((dig1 x).drop 1).map vI).length 0 io2) okc.toOkG rfl (by decide) rfl (by decide) rfl (fun v => rfl) ?_ ?_
   ·refine ItE.rev (R := NewO ((r2, lsI (dig1 x)) :: (It, io) :: (ol, lsI (q01 (ns.take i))) :: (T2 ++ led)) (lsI ((dig1 x).drop 1))) (by wtm_at "ev") ?_ ?_ rfl rfl
    ·show EvG _ _ _ _ (NewO _ (lsO _))
     rw [List.map_drop]
     exact EvG.cut1 (i := 0) (vs := (dig1 x).map vI) (by wtm_at "ev") rfl (by wtm_at "ev") (by rw [List.length_map]; exact Nat.le_trans d2 (by decide)) (by rw [List.length_map]; exact d1)
    ·(intro _; intro _; intro z1y; refine E_ea z1y fun dl z2z z3z => ?_; (try clear z1y); subst z2z; subst z3z)
     exact ⟨dl, _, rfl, ⟨0, rfl⟩, fun It2 io2 h => ⟨dl, rfl, h⟩⟩
   ·(intro It2; intro io2; intro _; intro z1y; refine E_ea z1y fun dl z2z hI => ?_; (try clear z1y); subst z2z)
    refine ⟨_, _, _, _, fun k ys l => l = (dl, lsI ((dig1 x).drop 1)) :: (r2, lsI (dig1 x)) :: (It, io) :: (ol, lsI (q01 (ns.take i))) :: (T2 ++ led) /\ ys = ((((dig1 x).drop 1).reverse.take k).map (· + 64)).map vI, ?_, hI, qag, fun p l h => h.elim fun j hj => ⟨j + 1, hj⟩, ⟨rfl, rfl⟩, ?_, ?_, ?_⟩
    ·rw [List.length_map, List.length_drop]; exact Nat.le_trans (Nat.sub_le _ _) (Nat.le_trans d2 (by decide))
    ·(intro k; intro ys; intro _; intro z1y; refine E_a z1y fun z2z z3z => ?_; (try clear z1y); subst z2z; (try clear z3z)); exact ⟨0, rfl⟩
    ·(intro k; intro ys; intro _; intro C; intro D; intro oC; intro io; intro mm; intro okC; intro hk; intro hyl; intro hio; intro hN; intro hm; intro z1y; refine E_a z1y fun z2z z3z => ?_; (try clear z1y); subst z2z; subst z3z)
     rw [List.length_map] at hk
     (refine E_e (⟨_, List.getElem?_eq_getElem (by rw [List.length_reverse]; exact hk)⟩ : ∃ d, ((dig1 x).drop 1).reverse[k]? = some d) fun d hz => ?_)
     rw [<- List.map_reverse, List.getD_eq_getElem?_getD, List.getElem?_map, hz] at hm
     refine EvG.mono (Ev.g (Ev.add (Ev.nameC okC rfl rfl rfl (i := 1) rfl hN hm) Ev.int)) ?_
     (intro _; intro _; intro z1y; refine E_a z1y fun z2z z3z => ?_; (try clear z1y); subst z2z; subst z3z)
     refine ⟨_, .refl _, rfl, ?_⟩
     rw [List.take_add_one, hz, List.map_append, List.map_append]; rfl
    ·(intro ys; intro _; intro D; intro hyl; intro z1y; refine E_a z1y fun z2z z3z => ?_; (try clear z1y); subst z2z; subst z3z)
     refine ⟨D, dl, rfl, ?_⟩
     rw [List.take_of_length_le (by rw [List.length_map, List.length_reverse]; exact Nat.le_refl _)]
 case done =>
  (intro m1; intro _; intro z1y; refine q3l z1y fun T1 z2z hT1 g1 g2 => ?_; (try clear z1y); subst z2z)
  refine Bd.ret (Ev.g (by wtm_at "ev")) ?_
  (intro v; intro l; intro s; intro z1y; refine E_a z1y fun hv z2z => ?_; (try clear z1y); subst z2z; intro S)
  refine ⟨_, _, S, ol, T1, hv, hT1, ?_⟩
  rw [List.length_map, List.take_length]
noncomputable def SeamE (l : Led) (v : Value) (sm : Seam) : Prop := ∃ t q, v = .ref t /\ (t, tpO [vI sm.1, vI sm.2.1, .ref q]) ∈ l /\ (q, lsI sm.2.2) ∈ l
noncomputable def SeamsE (l : Led) : List Value -> List Seam -> Prop
 | [], [] => True
 | v :: vs, s :: ss => SeamE l v s /\ SeamsE l vs ss
 | _, _ => False
theorem SeamE.mono {l l' : Led} (h : ∀ p ∈ l, p ∈ l') {v : Value} {sm : Seam} (x : SeamE l v sm) : SeamE l' v sm := by
 (refine q08 x fun t q h1 h2 h3 => ?_; (try clear x))
 exact ⟨t, q, h1, h _ h2, h _ h3⟩
theorem SeamsE.mono {l l' : Led} (h : ∀ p ∈ l, p ∈ l') : ∀ {its : List Value} {ss : List Seam}, SeamsE l its ss -> SeamsE l' its ss
 | [], [], _ => trivial
 | [], _ :: _, x => x.elim
 | _ :: _, [], x => x.elim
 | _ :: _, _ :: _, x => ⟨x.1.mono h, SeamsE.mono h x.2⟩
theorem q4g {l l' : Led} (h : ∀ p ∈ l, p ∈ l') {v : Value} {sm : Seam} (hv : SeamE l' v sm) : ∀ {its : List Value} {ss : List Seam}, SeamsE l its ss -> SeamsE l' (its ++ [v]) (ss ++ [sm])
 | [], [], _ => ⟨hv, trivial⟩
 | [], _ :: _, x => x.elim
 | _ :: _, [], x => x.elim
 | _ :: _, _ :: _, x => ⟨x.1.mono h, q4g h hv x.2⟩
theorem qg8 {c : Cx} {m : Fm} {led : Led} {i : Nat} {nl : Addr} {ns : List Int} (ok : c.Ok) (one : c.One) (hi : led[i]? = some (nl, lsI ns)) (hn : ns.length <= 63) (hx : ∀ x ∈ ns, 0 <= x /\ x < 262144) (hd : c.dp + 5 < recursionLimit) :
  Cl c m led (.ref 272) [.ref nl] (fun v l => ∃ t sl its ex, v = .ref t /\ l = ex ++ led /\ (t, tpO [.ref sl, vI (q05 ns ns.length).place]) ∈ ex /\ (sl, lsO its) ∈ ex /\ SeamsE ex its (q05 ns ns.length).ss /\ its.length <= ns.length) := by
 refine' Cl.dfn [Str.ofString "numbers"] ok ?ho ?hcd ?hroom ?hbind ?hloc ?z1 ?z2 ?z3 ?z4 ?h
 case ho => k_is
 case hcd => k_is
 case hroom => exact Nat.lt_of_le_of_lt (Nat.le_add_right _ _) hd
 case hbind =>
  intro s vs' hl
  (refine E_e (List.length_eq_one_iff.mp hl) fun v z1z => ?_; subst z1z)
  exact BindsTo.of_eq rfl
 case hloc => rfl
 case z1 => rfl
 case z2 => rfl
 case z3 => rfl
 case z4 => decide
 case h =>
 intro L' g okc hlt
 refine' Bd.assignG okc (EvG.list EvA.nil (Nat.zero_le _)) (fun v l hv => ?_) ?z5 ?z6
 case z5 => rfl
 case z6 => rfl
 (refine E_ea hv fun sl z1z z2z => ?_; (try clear hv); subst z1z; subst z2z)
 refine Bd.assign okc Ev.int ?_ rfl rfl
 refine Bd.assign okc Ev.int ?_ rfl rfl
 refine' Bd.rng (n := ns.length) (fun i m1 l1 => ∃ its ex pl, l1 = ex ++ (sl, lsO its) :: led /\ SeamsE ex its (q05 ns i).ss /\ m1 (Str.ofString "seams") = some (.ref sl) /\ m1 (Str.ofString "numbers") = some (.ref nl) /\ m1 (Str.ofString "place") = some (vI (q05 ns i).place) /\ m1 (Str.ofString "before") = some (vI (q05 ns i).before) /\ its.length <= i /\ pl = i) ?r1 ?r2 ?r3 ?r4 ?r5 ?r6 ?r7 ?r8 ?r9 ?ra ?rb
 case r1 => rfl
 case r2 => rfl
 case r3 => wtm_at "ev"
 case r4 => (rw [show (ns.length : Int) = ((ns.map vI).length : Nat) by rw [List.length_map]]; wtm_at "ev")
 case r5 => exact Nat.lt_of_le_of_lt hn (by decide)
 case r6 => exact ⟨[], [], 0, rfl, trivial, rfl, rfl, rfl, rfl, Nat.le_refl _, rfl⟩
 case r9 => rfl
 case ra => rfl
 case rb => intro v; rfl
 case r7 =>
  intro i m1 led1 It io hi2 htk hI
  (refine q3n hI fun its ex pl z1z hSE hm1 hm2 hm3 hm4 hil z2z => ?_; (try clear hI); subst z1z; (try clear z2z))
  (refine E_e (⟨_, List.getElem?_eq_getElem hi2⟩ : ∃ x, ns[i]? = some x) fun x hxi => ?_)
  have hgx : ns.getD i 0 = x := by rw [List.getD_eq_getElem?_getD, hxi]; rfl
  have hxx := hx x (List.mem_of_getElem? hxi)
  have hxv : (ns.map vI)[(i : Int).toNat]? = some (vI x) := by rw [List.getElem?_map, show (i : Int).toNat = i from rfl, hxi]; rfl
  have f64 : x.fmod 64 = x % 64 := Int.fmod_eq_emod_of_nonneg _ (by decide)
  have d64 : x.fdiv 64 = x / 64 := Int.fdiv_eq_ediv_of_nonneg _ (by decide)
  refine Bd.assign okc (by wtm_at "ev") ?_ rfl rfl
  refine Bd.assign okc (by wtm_at "ev") ?_ rfl rfl
  refine Bd.assign okc (by wtm_at "ev") ?_ rfl rfl
  refine Bd.whl2 (xa := Str.ofString "above") (xb := Str.ofString "place") (n0 := (x / 64).toNat) (fun n a p => n = a.toNat /\ 0 <= a /\ a < 4096 /\ p + upA a = (q05 ns i).place + upN x) rfl hm3 ⟨rfl, by exact o309 hxx, by exact o308 hxx, by rw [qhg hxx]⟩ ?_ one
  (intro n; intro av; intro pv; intro z1y; refine q2e z1y fun z2z ha0 ha1 hap => ?_; (try clear z1y); subst z2z)
  refine ⟨_, by wtm_at "tb", fun hb => ?_, fun hb => ?_⟩
  ·have hav : 0 < av := of_decide_eq_true hb
   refine Bd.iadd okc rfl (by rfl) (by wtm_at "ev") ?_ rfl
   refine Bd.assign okc (by wtm_at "ev") (Bd.nil fun s S => ?_) rfl rfl
   have h1 := qcp ⟨hav, ha1⟩
   exact ⟨rfl, (av / 64).toNat, av / 64, pv + 1, by exact o331 hav, ⟨rfl, by exact Int.ediv_nonneg ha0 (by decide), by exact o354 ha1, by exact o425 hap h1⟩, qft ▸ S⟩
  ·have hav : av = 0 := by have := of_decide_eq_false hb; omega
   subst hav
   have hpv : pv = (q05 ns i).place + upN x := (Int.add_zero pv).symm.trans hap
   subst hpv
   refine Bd.ite (by wtm_at "tb") (fun hb2 => ?_) (fun hb2 => ?_)
   ·have es := qal (ns := ns) (i := i) hgx (by have h := hb2; rw [Bool.and_true, Bool.and_true] at h; exact h)
    refine Bd.expr (EvG.append (R := fun v l => ∃ t q, v = .ref t /\ l = (t, tpO [vI ((q05 ns i).place + upN x), vI i, .ref q]) :: (q, lsI (if x < 64 then [x % 64, (q05 ns i).before] else [x % 64])) :: (It, io) :: (ex ++ (sl, lsO its) :: led))
     (R' := fun v l => ∃ t q, l = (t, tpO [vI ((q05 ns i).place + upN x), vI i, .ref q]) :: (q, lsI (if x < 64 then [x % 64, (q05 ns i).before] else [x % 64])) :: (It, io) :: (ex ++ (sl, lsO (its ++ [.ref t])) :: led)) (vs := its) (Ev.name okc rfl rfl hm1) ?q1 ?q2 ⟨_, by wtm_at "at"⟩ ?q3 rfl rfl) (fun v l hv => ?q4) rfl rfl
    case q1 =>
     refine EvG.tupG (R := fun vs l => ∃ q, vs = [vI ((q05 ns i).place + upN x), vI i, .ref q] /\ l = (q, lsI (if x < 64 then [x % 64, (q05 ns i).before] else [x % 64])) :: (It, io) :: (ex ++ (sl, lsO its) :: led)) ?_ ?_ ?_
     ·refine EvGA.consE (by wtm_at "ev") (EvGA.consE (by wtm_at "ev") (EvGA.cons (R1 := NewO ((It, io) :: (ex ++ (sl, lsO its) :: led)) (lsI (if x < 64 then [x % 64, (q05 ns i).before] else [x % 64]))) (EvG.ifx (by wtm_at "tb") (fun h => ?_) (fun h => ?_)) (fun v l hv => EvGA.nil ?_) rfl) rfl) rfl
      ·rw [if_pos (of_decide_eq_true h)]
       exact EvG.list (by wtm_at "eva") (by show 2 <= _; decide)
      ·rw [if_neg (of_decide_eq_false h)]
       exact EvG.list (by wtm_at "eva") (by show 1 <= _; decide)
      ·(refine E_ea hv fun q z1z z2z => ?_; (try clear hv); subst z1z; subst z2z)
       exact ⟨q, rfl, rfl⟩
     ·(intro _; intro _; intro z1y; refine E_ea z1y fun q z2z z3z => ?_; (try clear z1y); subst z2z; (try clear z3z))
      show 3 <= _
      decide
     ·(intro _; intro _; intro D; intro z1y; refine E_ea z1y fun q z2z z3z => ?_; (try clear z1y); subst z2z; subst z3z)
      exact ⟨D, q, rfl, rfl⟩
    case q2 =>
     (intro _; intro _; intro z1y; refine q07 z1y fun t q z2z z3z => ?_; (try clear z1y); subst z2z; subst z3z)
     exact ⟨_, q06 (q06 (q06 q85)), t, q, by rw [List.set_cons_succ, List.set_cons_succ, List.set_cons_succ, qay]⟩
    case q3 => (have h3 : sizeLine = 16777216 := rfl; omega)
    case q4 =>
     (refine E_ee hv fun t q z1z => ?_; (try clear hv); subst z1z)
     refine Bd.fall (Bd.iadd okc rfl (by rfl) (by wtm_at "ev") (Bd.assign okc (by wtm_at "ev") (Bd.nil fun s S => ?_) rfl rfl) rfl)
     refine ⟨.inl rfl, _, _, ?_, S.perm (List.perm_middle (l₁ := [_, _]))⟩
     refine ⟨its ++ [.ref t], (t, tpO [vI ((q05 ns i).place + upN x), vI i, .ref q]) :: (q, lsI (if x < 64 then [x % 64, (q05 ns i).before] else [x % 64])) :: ex, i + 1, rfl, ?_, hm1, hm2, by rw [es]; rfl, by rw [es]; rfl, by rw [List.length_append]; exact Nat.add_le_add_right hil 1, rfl⟩
     rw [es]
     exact q4g (sm := ((q05 ns i).place + upN x, (i : Int), if x < 64 then [x % 64, (q05 ns i).before] else [x % 64])) (fun p hp => .tail _ (.tail _ hp)) ⟨t, q, rfl, .head _, .tail _ (.head _)⟩ hSE
   ·have es := q99 (ns := ns) (i := i) hgx (by have h := hb2; rw [Bool.and_true, Bool.and_true] at h; exact h)
    refine Bd.fall (Bd.iadd okc rfl (by rfl) (by wtm_at "ev") (Bd.assign okc (by wtm_at "ev") (Bd.nil fun s S => ?_) rfl rfl) rfl)
    refine ⟨.inl rfl, _, _, ?_, S⟩
    exact ⟨its, ex, i + 1, rfl, by rw [es]; exact hSE, hm1, hm2, by rw [es]; rfl, by rw [es]; rfl, Nat.le_succ_of_le hil, rfl⟩
 case r8 =>
  intro m1 led1 hI
  (refine q3n hI fun its ex pl z1z hSE hm1 hm2 hm3 hm4 hil z2z => ?_; (try clear hI); subst z1z; (try clear z2z))
  refine Bd.ret (EvG.tup (EvA.cons rfl (Ev.name okc rfl rfl hm1) (EvA.cons rfl (Ev.name okc rfl rfl hm3) EvA.nil)) (by show 2 <= _; decide)) ?_
  (intro v; intro l; intro s; intro z1y; refine E_ea z1y fun t hv z2z => ?_; (try clear z1y); subst z2z; intro S)
  exact ⟨_, _, S, t, sl, its, (t, tpO [.ref sl, vI (q05 ns ns.length).place]) :: (ex ++ [(sl, lsO its)]), hv, by rw [List.cons_append, List.append_assoc]; rfl, .head _, .tail _ (List.mem_append_right _ (.head _)), SeamsE.mono (fun p hp => .tail _ (List.mem_append_left _ hp)) hSE, hil⟩
section
theorem q2p {l : Led} : ∀ {its : List Value} {ss : List Seam} {i : Nat} {sm : Seam}, SeamsE l its ss -> ss[i]? = some sm -> ∃ v, its[i]? = some v /\ SeamE l v sm
 | v :: its, s :: ss, 0, sm, x, h => by
  obtain rfl : s = sm := Option.some.inj h
  exact ⟨v, rfl, x.1⟩
 | v :: its, s :: ss, i + 1, sm, x, h => q2p (i := i) x.2 h
 | [], [], _, _, _, h => by cases h
theorem q1d {l : Led} : ∀ {its : List Value} {ss : List Seam}, SeamsE l its ss -> its.length = ss.length
 | [], [], _ => rfl
 | [], _ :: _, x => x.elim
 | _ :: _, [], x => x.elim
 | _ :: _, _ :: _, x => congrArg (· + 1) (q1d x.2)
theorem q4j {l : Led} : ∀ (k : Nat) {its : List Value} {ss : List Seam}, SeamsE l its ss -> SeamsE l (its.take k) (ss.take k)
 | 0, _, _, _ => trivial
 | _ + 1, [], [], _ => trivial
 | _ + 1, [], _ :: _, x => x.elim
 | _ + 1, _ :: _, [], x => x.elim
 | k + 1, _ :: _, _ :: _, x => ⟨x.1, q4j k x.2⟩
theorem q45 {l : Led} {its : List Value} {ss : List Seam} (h : SeamsE l its ss) : SeamsE l (its.drop 1) (ss.drop 1) := by
 cases its <;> cases ss
 ·trivial
 ·exact h.elim
 ·exact h.elim
 ·exact h.2
theorem TriE.mono {l l' : Led} (h : ∀ p ∈ l, p ∈ l') {v : Value} {f : Tri} : TriE l v f -> TriE l' v f := fun ⟨t, h1, h2⟩ => ⟨t, h1, h _ h2⟩
theorem CellV.skip {l ex : Led} {ca : Addr} {v : Value} (h : CellV l ca v) : CellV (ex ++ l) ca v := by
 (refine q1o h fun i o v' h1 h2 h3 => ?_; (try clear h))
 exact ⟨_, o, v', q0f h1, h2, h3⟩
theorem q4v {codes : List Int} {a b : List Seam} {begin : Int} : q0j codes (a ++ b) begin = q0j codes a begin ++ q0j codes b begin := by
 unfold q0j
 rw [List.flatMap_append, List.filter_append, List.map_append]
noncomputable def q1z (codes : List Int) (sm : Seam) (begin : Int) (cs : List Int) : List Tri := (cs.filter fun q => decide (begin < sm.1) && decide (q ∈ codes)).map fun q => ((codes.idxOf q : Int), -sm.1, sm.2.1)
theorem q5f {codes : List Int} {sm : Seam} {begin : Int} : q0j codes [sm] begin = q1z codes sm begin sm.2.2 := by
 unfold q0j q1z
 rw [List.flatMap_cons, List.flatMap_nil, List.append_nil, List.filter_map, List.map_map]
 rfl
theorem q81 {codes : List Int} {sm : Seam} {begin : Int} {cs : List Int} {q : Int} : q1z codes sm begin (cs ++ [q]) = q1z codes sm begin cs ++ bif decide (begin < sm.1) && (decide (q ∈ codes) && true) then [((codes.idxOf q : Int), -sm.1, sm.2.1)] else [] := by
 unfold q1z
 rw [List.filter_append, List.map_append, List.filter_cons, List.filter_nil, Bool.and_true]
 cases decide (begin < sm.1) && decide (q ∈ codes) <;> rfl
theorem q4z {codes : List Int} {sm : Seam} {begin : Int} {cs : List Int} : (q1z codes sm begin cs).length <= cs.length := by
 unfold q1z
 rw [List.length_map]
 exact List.length_filter_le _ _
theorem q4x {codes : List Int} {begin : Int} : ∀ {ss : List Seam}, (∀ sm ∈ ss, sm.2.2.length <= 2) -> (q0j codes ss begin).length <= 2 * ss.length
 | [], _ => Nat.le_refl _
 | sm :: ss, h => by
  rw [show sm :: ss = [sm] ++ ss from rfl, q4v, List.length_append, q5f]
  have h1 := q4x (codes := codes) (begin := begin) fun x hx => h x (.tail sm hx)
  have h2 := Nat.le_trans (q4z (codes := codes) (sm := sm) (begin := begin)) (h sm (.head _))
  rw [List.length_append, Nat.mul_add]
  exact Nat.add_le_add h2 h1
section
variable {codes : List Int} {wd size : Int} {ss : List Seam} {turn : Nat} {st : FO}
theorem qep (h : ¬ (q0q ss size).getD turn 0 - st.begin > st.room) : q2s codes wd ss size turn st = st := by unfold q2s; rw [if_neg h]
theorem qcj {b : Tri} {r : List Tri} (h : (q0q ss size).getD turn 0 - st.begin > st.room) (hf : q0j codes (ss.take (turn + 1)) st.begin = b :: r) : q2s codes wd ss size turn st = ⟨st.folds ++ [(q1t b r).2.2], -(q1t b r).2.1, wd⟩ := by unfold q2s; rw [if_pos h, hf]
theorem qck (h : (q0q ss size).getD turn 0 - st.begin > st.room) (hf : q0j codes (ss.take (turn + 1)) st.begin = []) (hr : st.room < wd) : q2s codes wd ss size turn st = ⟨st.folds ++ [(ss.getD turn (0, 0, [])).2.1], (ss.getD turn (0, 0, [])).1, wd⟩ := by unfold q2s; rw [if_pos h, hf]; exact if_pos hr
theorem qdc (h : (q0q ss size).getD turn 0 - st.begin > st.room) (hf : q0j codes (ss.take (turn + 1)) st.begin = []) (hr : ¬ st.room < wd) : q2s codes wd ss size turn st = st := by unfold q2s; rw [if_pos h, hf]; exact if_neg hr
end
noncomputable def FolI (codes : List Int) (wd hd size : Int) (ss : List Seam) (fl cb sl el : Addr) (base : Led) (i : Nat) (m1 : Fm) (l1 : Led) : Prop :=
 ∃ ob v, l1 = (fl, lsI (q17 codes wd hd ss size i).folds) :: (cb, ob) :: base /\ ob.data = .cell (some v) /\ eV v = vI (q17 codes wd hd ss size i).begin /\ m1 (Str.ofString "room") = some (vI (q17 codes wd hd ss size i).room) /\
  m1 (Str.ofString "seams") = some (.ref sl) /\ m1 (Str.ofString "ends") = some (.ref el) /\ m1 (Str.ofString "folds") = some (.ref fl) /\ m1 (Str.ofString "width") = some (vI wd) /\ (q17 codes wd hd ss size i).folds.length <= i
theorem qgn {c : Cx} {m : Fm} {led : Led} {jn jc : Nat} {nl cl9 : Addr} {ns codes : List Int} {wd hd : Int} (ok : c.Ok) (one : c.One) (hnl : led[jn]? = some (nl, lsI ns)) (hcl9 : led[jc]? = some (cl9, lsI codes)) (hpos : 1 <= (q05 ns ns.length).ss.length)
  (hn : ns.length <= 63) (hcn : codes.length <= 100) (hx : ∀ x ∈ ns, 0 <= x /\ x < 262144) (hd9 : c.dp + 60 < recursionLimit) (hu : c.un + 600 < cLine) :
  Cl c m led (.ref 277) [.ref nl, vI wd, vI hd, .ref cl9] (fun v l => ∃ fl, v = .ref fl /\ l = (fl, lsI (q12 ns wd hd codes)) :: led /\ (q12 ns wd hd codes).length <= 63) := by
 refine' Cl.dfnC [Str.ofString "numbers", Str.ofString "width", Str.ofString "head", Str.ofString "codes"] ok ?ho ?hcd ?hroom ?hbind ?hkind ?hnd ?hca ?z1 ?z2 ?z3 ?h
 case ho => k_is
 case hcd => k_is
 case hroom => exact room (j := 0) hd9 (by decide)
 case hbind =>
  intro s vs' hl
  (refine qbx (ex4 hl) fun v1 v2 v3 v4 z1z => ?_; subst z1z)
  exact BindsTo.of_eq rfl
 case hkind => rfl
 case hnd => decide
 case hca =>
  intro L'
  show ([L' + 1 + 1, L' + 1] : List Nat).Nodup /\ ∀ b ∈ ([L' + 1 + 1, L' + 1] : List Nat), L' < b
  simp only [List.nodup_cons, List.mem_cons, List.not_mem_nil, or_false, not_or, List.nodup_nil, and_true, forall_eq_or_imp, forall_eq, not_false_eq_true]
  exact o92
 case z1 => rfl
 case z2 => rfl
 case z3 => rfl
 case h =>
 intro L' g cells
 refine (let c0 : Cx := _; fun (okc : c0.Ok) => (?_ : _ -> _ -> Bd c0 _ _ _ (Out c0 _)))
 intro hlt hce
 have hce' : q4p _ [(Str.ofString "begin", L' + 1 + 1), (Str.ofString "codes", L' + 1)] cells := hce
 clear hce
 rcases cells with _ | ⟨⟨cb, ob⟩, _ | ⟨⟨cc, oc⟩, _ | ⟨p, r⟩⟩⟩
 ·exact hce'.elim
 ·exact hce'.2.2.elim
 case cons.cons.cons => exact hce'.2.2.2.2.elim
 (refine q2r hce' fun z1z z2z z3z z4z z5z => ?_; (try clear hce'); subst z1z; obtain ⟨w1, d1, -⟩ := z2z; subst z3z; obtain ⟨w2, d2, e2⟩ := z4z; (try clear z5z))
 (refine E_ea (Option.map_eq_some_iff.mp (show w2.map eV = some (.ref cl9) from e2)) fun v2 z1z ev2 => ?_; subst z1z)
 refine (let m1 : Fm := _; (?_ : Bd c0 m1 ((L' + 1 + 1, ob) :: (L' + 1, oc) :: led) _ _))
 refine Bd.assignT okc (EvG.call okc (by wtm_at "ev") (fun v => q04) (by k_is) (by wtm_at "eva") (qg8 okc one (q06 (q06 hnl)) hn hx (room (j := 1 + 5) hd9 (by decide))) rfl rfl rfl) rfl rfl (fun v l hv => ?_) rfl rfl
 (refine q48 hv fun t8 sl its ex z1z z2z ht8 hsl hSE0 hil => ?_; (try clear hv); subst z1z; subst z2z)
 (refine E_e (q16 (List.mem_append_left ((L' + 1 + 1, ob) :: (L' + 1, oc) :: led) ht8)) fun j8 hj8 => ?_)
 refine ⟨t8, j8, _, _, rfl, hj8, ?_⟩
 clear ht8 hj8
 have h2s := qac ns ns.length
 unfold q12
 generalize (q05 ns ns.length).ss = ss at *
 generalize (q05 ns ns.length).place = size at *
 have hlen := q1d hSE0
 have hits : its.length <= 63 := Nat.le_trans hil hn
 have hits1 : 1 <= its.length := hlen ▸ hpos
 refine Bd.perm (List.perm_append_comm_assoc ex [_, _] led) ?_
 have hSE : SeamsE ((L' + 1, oc) :: (ex ++ led)) its ss := hSE0.mono fun p hp => .tail _ (List.mem_append_left _ hp)
 have hsl' : (sl, lsO its) ∈ (L' + 1, oc) :: (ex ++ led) := .tail _ (List.mem_append_left _ hsl)
 have hcl' : (cl9, lsI codes) ∈ (L' + 1, oc) :: (ex ++ led) := .tail _ (List.mem_append_right _ (List.mem_of_getElem? hcl9))
 have hccv : CellV ((L' + 1, oc) :: (ex ++ led)) (L' + 1) (.ref cl9) := ⟨0, oc, v2, rfl, d2, ev2⟩
 have fin : ∀ (fl : Addr) o1 o2 c2 m2 s, SS c2 m2 ((fl, o1) :: (L' + 1 + 1, o2) :: ((L' + 1, oc) :: (ex ++ led))) s -> SS c2 m2 ((fl, o1) :: led) s := fun fl o1 o2 c2 m2 s S => S.pick _ (.cons_cons _ (.cons _ (.cons _ (List.sublist_append_right ex led)))) (.refl _)
 clear hSE0 hsl hnl hcl9 hx
 change Bd _ _ ((L' + 1 + 1, ob) :: ((L' + 1, oc) :: (ex ++ led))) _ _
 generalize ((L' + 1, oc) :: (ex ++ led)) = base0 at hSE hsl' hcl' hccv fin ⊢
 (refine E_e (q16 hsl') fun js hsl => ?_)
 refine Bd.assignG okc (R := fun v l => ∃ el o1 o2, v = .ref el /\ l = (el, lsI (q0q ss size)) :: o1 :: o2 :: (L' + 1 + 1, ob) :: base0) (EvG.addLG (R := fun v l => ∃ D o2, v = .ref D /\ l = (D, lsI ((ss.drop 1).map (·.1))) :: o2 :: (L' + 1 + 1, ob) :: base0) ?ecomp ?eadd) (fun v l hv => ?_) rfl rfl
 case eadd =>
  (intro _; intro _; intro z1y; refine q07 z1y fun D o2 z2z z3z => ?_; (try clear z1y); subst z2z; subst z3z)
  exact ⟨D, 0, _, [size], rfl, rfl, by wtm_at "eva", by rw [List.length_map, List.length_drop]; show _ + 1 <= _; exact o165 hlen hits, fun D' => ⟨D', _, _, rfl, rfl⟩⟩
 case ecomp =>
  refine EvG.comp1 (cl := []) (W := fun It2 io2 l => ∃ dl, l = (dl, lsO (its.drop 1)) :: (L' + 1 + 1, ob) :: base0 /\ ITl dl 0 io2) okc.toOkG rfl (by decide) rfl (by decide) rfl (fun v => rfl) ?_ ?_
  ·exact ItE.list (EvG.cut1 (i := js + 1) (vs := its) (by wtm_at "ev") hsl (by wtm_at "ev") (Nat.le_trans hits (by decide)) hits1) (by (intro _; intro _; intro z1y; refine E_ea z1y fun dl z2z z3z => ?_; (try clear z1y); subst z2z; subst z3z); exact ⟨dl, _, rfl, ⟨0, rfl⟩, fun It2 io2 h => ⟨dl, rfl, h⟩⟩)
  ·(intro It2; intro io2; intro _; intro z1y; refine E_ea z1y fun dl z2z hI => ?_; (try clear z1y); subst z2z)
   refine ⟨_, _, _, _, fun k ys l => l = (dl, lsO (its.drop 1)) :: (L' + 1 + 1, ob) :: base0 /\ ys = (((ss.drop 1).take k).map (·.1)).map vI, ?_, hI, q27 (vs := its.drop 1), fun p l h => h.elim fun j hj => ⟨j + 1, hj⟩, ⟨rfl, rfl⟩, ?_, ?_, ?_⟩
   ·rw [List.length_drop]; exact o57 hits
   ·(intro k; intro ys; intro _; intro z1y; refine E_a z1y fun z2z z3z => ?_; (try clear z1y); subst z2z; (try clear z3z)); exact ⟨0, rfl⟩
   ·(intro k; intro ys; intro _; intro C; intro D; intro oC; intro io; intro mm; intro okC; intro hk; intro hyl; intro hio; intro hN; intro hm; intro z1y; refine E_a z1y fun z2z z3z => ?_; (try clear z1y); subst z2z; subst z3z)
    have hSd := q45 hSE
    (refine E_e (⟨_, List.getElem?_eq_getElem (q1d hSd ▸ hk)⟩ : ∃ sm, (ss.drop 1)[k]? = some sm) fun sm hz => ?_)
    (refine q62 (q2p hSd hz) fun v hv t q z1z hm1 hm2 => ?_; subst z1z)
    rw [List.getD_eq_getElem?_getD, hv] at hm
    (refine E_e (q16 hm1) fun jt hjt => ?_)
    refine EvG.mono (Ev.g (Ev.titem (i := jt + 5) (j := 0) (Ev.nameC okC rfl rfl rfl (i := 1) rfl hN hm) Ev.int hjt (by decide) (by decide) rfl rfl (by intro u; rfl))) ?_
    (intro _; intro _; intro z1y; refine E_a z1y fun z2z z3z => ?_; (try clear z1y); subst z2z; subst z3z)
    refine ⟨_, .refl _, rfl, ?_⟩
    rw [List.take_add_one, hz, List.map_append, List.map_append]; rfl
   ·(intro ys; intro _; intro D; intro hyl; intro z1y; refine E_a z1y fun z2z z3z => ?_; (try clear z1y); subst z2z; subst z3z)
    refine ⟨D, (dl, lsO (its.drop 1)), rfl, ?_⟩
    rw [List.take_of_length_le (by rw [<- q1d (q45 hSE)]; exact Nat.le_refl _)]
 (refine q2u hv fun el o1 o2 z1z z2z => ?_; (try clear hv); subst z1z; subst z2z)
 refine Bd.pick _ (.cons_cons _ (.cons _ (.cons _ (.refl _)))) (List.Perm.swap _ _ _) ?_
 refine (let m1 : Fm := _; (?_ : Bd c0 m1 _ _ _))
 have fin2 : ∀ (fl : Addr) oa ob c2 m2 s, SS c2 m2 ((fl, oa) :: (L' + 1 + 1, ob) :: (el, lsI (q0q ss size)) :: base0) s -> SS c2 m2 ((fl, oa) :: led) s := fun fl oa ob c2 m2 s S => fin fl oa ob c2 m2 s (S.pick _ (.cons_cons _ (.cons_cons _ (.cons _ (.refl _)))) (.refl _))
 have hSE1 := hSE.mono (l' := (el, lsI (q0q ss size)) :: base0) fun p hp => .tail _ hp
 have hccv1 := hccv.cons (p := (el, lsI (q0q ss size)))
 have hel : ((el, lsI (q0q ss size)) :: base0)[0]? = some (el, lsI (q0q ss size)) := rfl
 have hsl1 := q06 (q := (el, lsI (q0q ss size))) hsl
 (refine E_e (q16 (List.mem_cons_of_mem (el, lsI (q0q ss size)) hcl')) fun jc1 hcl1 => ?_)
 clear fin hSE hccv hsl hsl' hcl'
 generalize ((el, lsI (q0q ss size)) :: base0) = base at *
 generalize js + 1 = js1 at *
 change Bd _ _ ((L' + 1 + 1, ob) :: base) _ _
 refine Bd.assignG okc (EvG.list EvA.nil (Nat.zero_le _)) (fun v l hv => ?_) rfl rfl
 (refine E_ea hv fun fl z1z z2z => ?_; (try clear hv); subst z1z; subst z2z)
 refine Bd.assignC okc (Ev.g Ev.int) rfl rfl (fun v l hv => ?_) rfl
 (refine E_a hv fun z1z z2z => ?_; (try clear hv); subst z1z; subst z2z)
 refine ⟨1, ob, _, rfl, d1, fun ob1 hob1 => ?_⟩
 (refine E_ea hob1 fun vb1 hob2 hob3 => ?_; (try clear hob1))
 change Bd _ _ ((fl, lsO []) :: (L' + 1 + 1, ob1) :: base) _ _
 refine Bd.assign okc (v := vI (wd - hd)) (Ev.sub (by wtm_at "ev") (by wtm_at "ev")) ?_ rfl rfl
 refine (let m1 : Fm := _; (?_ : Bd c0 m1 _ _ _))
 refine' Bd.rng (n := its.length) (FolI codes wd hd size ss fl (L' + 1 + 1) sl el base) ?r1 ?r2 ?r3 ?r4 ?r5 ?r6 ?r7 ?r8 ?r9 ?ra ?rb
 case r1 => rfl
 case r2 => rfl
 case r3 => wtm_at "ev"
 case r4 => exact Ev.len (by wtm_at "ev") (by wtm_at "ev") (by wtm_at "at") (Nat.lt_of_le_of_lt hits (by decide)) (by rfl) (by rfl)
 case r5 => exact Nat.lt_of_le_of_lt hits (by decide)
 case r6 => exact ⟨ob1, vb1, rfl, hob2, hob3, rfl, rfl, rfl, rfl, rfl, Nat.zero_le _⟩
 case r9 => rfl
 case ra => rfl
 case rb => intro v; rfl
 case r8 =>
  (intro m1; intro _; intro z1y; refine q6v z1y fun ob v z2z hb1 hb2 g1 g2 g3 g4 g5 hfl => ?_; (try clear z1y); subst z2z)
  refine Bd.ret (Ev.g (by wtm_at "ev")) ?_
  (intro v; intro l; intro s; intro z1y; refine E_a z1y fun hv z2z => ?_; (try clear z1y); subst z2z; intro S)
  rw [hlen] at S hfl
  exact ⟨_, _, fin2 _ _ _ _ _ _ S, fl, hv, rfl, Nat.le_trans hfl (hlen ▸ hits)⟩
 case r7 =>
  rintro i m1 _ It io hi - ⟨ob, vb, rfl, hb1, hb2, g1, g2, g3, g4, g5, hfl⟩
  have hst : q17 codes wd hd ss size (i + 1) = q2s codes wd ss size i (q17 codes wd hd ss size i) := rfl
  have hev : ((q0q ss size).map vI)[(i : Int).toNat]? = some (vI ((q0q ss size).getD i 0)) := by
   have hl2 : i < (q0q ss size).length := by
    unfold q0q
    rw [List.length_append, List.length_map, List.length_drop]; show _ < _ + 1; exact o250 hlen hi
   rw [List.getElem?_map, show (i : Int).toNat = i from rfl, List.getD_eq_getElem?_getD, List.getElem?_eq_getElem hl2]; rfl
  have hi63 := Nat.lt_of_lt_of_le hi hits
  (refine E_e (⟨_, List.getElem?_eq_getElem (hlen ▸ hi)⟩ : ∃ sm, ss[i]? = some sm) fun sm hsm => ?_)
  (refine q62 (q2p hSE1 hsm) fun vsm hvsm tsm qsm z1z hsm1 hsm2 => ?_; subst z1z)
  (refine E_e (q16 hsm1) fun jt hjt => ?_)
  have hsg : ss.getD i (0, 0, []) = sm := by rw [List.getD_eq_getElem?_getD, hsm]; rfl
  unfold FolI
  rw [hst]
  generalize q17 codes wd hd ss size i = st at *
  have hcb : CellV ((It, io) :: (fl, lsI st.folds) :: (L' + 1 + 1, ob) :: base) (L' + 1 + 1) (vI st.begin) := ⟨2, ob, vb, rfl, hb1, hb2⟩
  have hel1 : ((It, io) :: (fl, lsI st.folds) :: (L' + 1 + 1, ob) :: base)[3]? = some (el, lsI (q0q ss size)) := hel
  have hfl1 := Nat.le_trans (Nat.le_trans hfl (Nat.le_of_lt hi63)) (show 63 <= 1000 by decide)
  refine Bd.ite (Tb.gt (Ev.sub (Ev.item (vs := (q0q ss size).map vI) (by wtm_at "ev") (by wtm_at "ev") hel1 (by exact Int.natCast_nonneg _) (by exact o33 hi63) hev (by intro u; rfl)) (by wtm_at "ev")) (by wtm_at "ev") rfl) (fun hb => ?_) (fun hb => ?_)
  rotate_left
  ·have hno := of_decide_eq_false hb
   rw [qep hno]
   exact Bd.fall (Bd.nil fun s S => ⟨.inl rfl, updM m1 (Str.ofString "turn") (.int i 0), (fl, lsI st.folds) :: (L' + 1 + 1, ob) :: base, ⟨ob, vb, rfl, hb1, hb2, g1, g2, g3, g4, g5, Nat.le_succ_of_le hfl⟩, S⟩)
  have hgt := of_decide_eq_true hb
  have hsl3 : ((It, io) :: (fl, lsI st.folds) :: (L' + 1 + 1, ob) :: base)[js1 + 3]? = some (sl, lsO its) := hsl1
  have hSEt := q4j (i + 1) hSE1
  have hk2 : ∀ sm ∈ ss.take (i + 1), sm.2.2.length <= 2 := fun sm h => h2s sm (List.mem_of_mem_take h)
  have hk3 : (ss.take (i + 1)).length <= 63 := Nat.le_trans (List.length_take_le' _ _) (hlen ▸ hits)
  refine' qfs (cl := [(Str.ofString "codes", L' + 1), (Str.ofString "begin", L' + 1 + 1)]) (W := fun It2 io2 l => ∃ sl2, l = (sl2, lsO (its.take (i + 1))) :: (It, io) :: (fl, lsI st.folds) :: (L' + 1 + 1, ob) :: base /\ ITl sl2 0 io2) okc ?c1 ?c2 ?c3 ?c4 ?c5 ?c6 ?c7 ?c8 ?c9 ?ca ?cb ?cc ?cd
  case c1 => with_unfolding_all rfl
  case c2 => rfl
  case c3 => rfl
  case c4 => decide
  case c5 => rfl
  case c6 => decide
  case c7 => rfl
  case c8 => rfl
  case c9 => decide
  case ca => intro v; rfl
  case cb => intro C v; rfl
  case cc => exact ItE.list (EvG.cutTo (j := i) (vs := its) (by wtm_at "ev") hsl3 (Ev.add (by wtm_at "ev") Ev.int) (Nat.le_trans hits (by decide))) (by (intro _; intro _; intro z1y; refine E_ea z1y fun dl z2z z3z => ?_; (try clear z1y); subst z2z; subst z3z); exact ⟨dl, _, rfl, ⟨0, rfl⟩, fun It2 io2 h => ⟨dl, rfl, h⟩⟩)
  case cd =>
   (intro It2; intro io2; intro _; intro z1y; refine E_ea z1y fun sl2 z2z hI => ?_; (try clear z1y); subst z2z)
   refine ⟨_, _, _, _, fun k ys l => ∃ exf, l = exf ++ (sl2, lsO (its.take (i + 1))) :: (It, io) :: (fl, lsI st.folds) :: (L' + 1 + 1, ob) :: base /\ All2 (TriE exf) ys (q0j codes ((ss.take (i + 1)).take k) st.begin), hI, q27 (vs := its.take (i + 1)), fun p l h => h.elim fun j hj => ⟨j + 1, hj⟩, ⟨[], rfl, trivial⟩, ?_, ?_, ?_⟩
   ·(intro k; intro ys; intro _; intro z1y; refine E_ea z1y fun exf z2z z3z => ?_; (try clear z1y); subst z2z; (try clear z3z)); exact ⟨_, q85⟩
   ·(intro k; intro ys; intro _; intro C; intro D; intro oC; intro io2; intro mm; intro okC; intro hk; intro hio; intro hN; intro hm; intro z1y; refine E_ea z1y fun exf z2z hA => ?_; (try clear z1y); subst z2z)
    (refine E_e (⟨_, List.getElem?_eq_getElem (q1d hSEt ▸ hk)⟩ : ∃ sm, (ss.take (i + 1))[k]? = some sm) fun sm2 hz => ?_)
    (refine q62 (q2p hSEt hz) fun v hv t q z1z hm1 hm2 => ?_; subst z1z)
    rw [List.getD_eq_getElem?_getD, hv] at hm
    (refine E_e (q16 hm1) fun jt2 hjt2 => ?_)
    (refine E_e (q16 hm2) fun jq hjq => ?_)
    have hfT : q0j codes ((ss.take (i + 1)).take (k + 1)) st.begin = q0j codes ((ss.take (i + 1)).take k) st.begin ++ q1z codes sm2 st.begin sm2.2.2 := by
     rw [List.take_add_one, hz, q4v]
     show _ ++ q0j codes [sm2] _ = _
     rw [q5f]
    refine ⟨fun Jt jo l2 => l2 = (It2, io2) :: (C, oC) :: (D, lsO ys) :: (exf ++ (sl2, lsO (its.take (i + 1))) :: (It, io) :: (fl, lsI st.folds) :: (L' + 1 + 1, ob) :: base) /\ ITl q 0 jo, ?_, ?_⟩
    ·refine ItE.list (R := Same (.ref q) _) (Ev.titem (j := 2) (Ev.nameC okC rfl rfl rfl (i := 1) rfl hN hm) Ev.int (q06 (q06 (q06 (q0f (q06 (q06 (q06 (q06 hjt2)))))))) (by decide) (by decide) rfl rfl (by intro u; rfl)).g ?_
     (intro _; intro _; intro z1y; refine E_a z1y fun z2z z3z => ?_; (try clear z1y); subst z2z; subst z3z)
     exact ⟨q, _, rfl, ⟨_, q06 (q06 (q06 (q0f (q06 (q06 (q06 (q06 hjq)))))))⟩, fun _ _ hi => ⟨rfl, hi⟩⟩
    (intro Jt; intro jo; intro _; intro z1y; refine E_a z1y fun z2z hJ => ?_; (try clear z1y); subst z2z)
    refine ⟨rfl, _, _, _, _, fun j ys l => ∃ exf, l = exf ++ (sl2, lsO (its.take (i + 1))) :: (It, io) :: (fl, lsI st.folds) :: (L' + 1 + 1, ob) :: base /\ All2 (TriE exf) ys (q0j codes ((ss.take (i + 1)).take k) st.begin ++ q1z codes sm2 st.begin (sm2.2.2.take j)), hJ, q27 (vs := sm2.2.2.map vI), fun p l h => h.elim fun j hj => ⟨j + 1, hj⟩, ⟨exf, rfl, (List.append_nil _).symm ▸ hA⟩, ?_, ?_, ?_⟩
    ·(intro j; intro ys2; intro _; intro z1y; refine E_ea z1y fun exf2 z2z hA2 => ?_; (try clear z1y); subst z2z)
     refine ⟨⟨_, q0f (q06 (q06 (q06 (q06 hjq))))⟩, ?_⟩
     rw [hA2.len, List.length_append]
     have h1 := q4x (codes := codes) (begin := st.begin) (ss := (ss.take (i + 1)).take k) fun sm h => hk2 sm (List.mem_of_mem_take h)
     have h2 := q4z (codes := codes) (sm := sm2) (begin := st.begin) (cs := sm2.2.2.take j)
     exact Nat.le_trans (Nat.add_le_add (Nat.le_trans h1 (Nat.mul_le_mul_left 2 (Nat.le_trans (List.length_take_le' _ _) hk3))) (Nat.le_trans h2 (Nat.le_trans (List.length_take_le' _ _) (hk2 sm2 (List.mem_of_getElem? hz))))) (by decide)
    ·(intro j; intro ys2; intro _; intro oC2; intro jo2; intro mm2; intro hj; intro hjo; intro hN2; intro hmx; intro hmy; intro z1y; refine E_ea z1y fun exf2 z2z hA2 => ?_; (try clear z1y); subst z2z)
     rw [List.length_map] at hj
     (refine E_e (⟨_, List.getElem?_eq_getElem hj⟩ : ∃ q2, sm2.2.2[j]? = some q2) fun q2 hq2 => ?_)
     rw [List.getD_eq_getElem?_getD, List.getElem?_map, hq2] at hmy
     rw [List.getD_eq_getElem?_getD, hv] at hmx
     have hb4 := ((((hcb.cons (p := (sl2, lsO (its.take (i + 1))))).skip (ex := exf2)).cons (p := (D, lsO ys2))).cons (p := (C, oC2))).cons (p := (It2, io2)) |>.cons (p := (Jt, jo2))
     have hc4 := (((((((hccv1.cons (p := (L' + 1 + 1, ob))).cons (p := (fl, lsI st.folds))).cons (p := (It, io))).cons (p := (sl2, lsO (its.take (i + 1))))).skip (ex := exf2)).cons (p := (D, lsO ys2))).cons (p := (C, oC2))).cons (p := (It2, io2)) |>.cons (p := (Jt, jo2))
     have hcat := q06 (q := (Jt, jo2)) (q06 (q := (It2, io2)) (q06 (q := (C, oC2)) (q06 (q := (D, lsO ys2)) (q0f (ex := exf2) (q06 (q := (sl2, lsO (its.take (i + 1)))) (q06 (q := (It, io)) (q06 (q := (fl, lsI st.folds)) (q06 (q := (L' + 1 + 1, ob)) hcl1))))))))
     have htat := q06 (q := (Jt, jo2)) (q06 (q := (It2, io2)) (q06 (q := (C, oC2)) (q06 (q := (D, lsO ys2)) (q0f (ex := exf2) (q06 (q := (sl2, lsO (its.take (i + 1)))) (q06 (q := (It, io)) (q06 (q := (fl, lsI st.folds)) (q06 (q := (L' + 1 + 1, ob)) hjt2))))))))
     have hsnoc : q1z codes sm2 st.begin (sm2.2.2.take (j + 1)) = q1z codes sm2 st.begin (sm2.2.2.take j) ++ bif decide (st.begin < sm2.1) && (decide (q2 ∈ codes) && true) then [((codes.idxOf q2 : Int), -sm2.1, sm2.2.1)] else [] := by rw [List.take_add_one, hq2]; exact q81
     refine ⟨decide (st.begin < sm2.1) && (decide (q2 ∈ codes) && true), Tb.and (TbA.cons (Tb.gt (Ev.titem (j := 0) (Ev.nameC okC rfl rfl rfl (i := 2) rfl hN2 hmx) Ev.int htat (by decide) (by decide) rfl rfl (by intro u; rfl)) (Ev.cellG okC rfl rfl rfl hb4 rfl) rfl) (TbA.cons (Tb.inl (Ev.nameC okC rfl rfl rfl (i := 2) rfl hN2 hmy) (Ev.cellG okC rfl rfl rfl hc4 rfl) hcat rfl) TbA.nil)), fun hb => ?_, fun hb => ?_⟩
     ·have hqc : q2 ∈ codes := of_decide_eq_true ((Bool.and_eq_true _ _).mp ((Bool.and_eq_true _ _).mp hb).2).1
      refine EvG.mono (EvG.tup (vs := [vI (codes.idxOf q2), vI (-sm2.1), vI sm2.2.1]) (EvA.cons rfl (Ev.index (Ev.cellG okC rfl rfl rfl hc4 rfl) (Ev.nameC okC rfl rfl rfl (i := 2) rfl hN2 hmy) hcat hqc (Nat.le_trans hcn (by decide)) rfl rfl) (EvA.cons rfl (Ev.neg (Ev.titem (j := 0) (Ev.nameC okC rfl rfl rfl (i := 2) rfl hN2 hmx) Ev.int htat (by decide) (by decide) rfl rfl (by intro u; rfl))) (EvA.cons rfl (Ev.titem (j := 1) (Ev.nameC okC rfl rfl rfl (i := 2) rfl hN2 hmx) Ev.int htat (by decide) (by decide) rfl rfl (by intro u; rfl)) EvA.nil))) (show 3 <= _ by decide)) ?_
      (intro _; intro _; intro z1y; refine E_ea z1y fun T z2z z3z => ?_; (try clear z1y); subst z2z; subst z3z)
      refine ⟨(T, tpO [vI (codes.idxOf q2), vI (-sm2.1), vI sm2.2.1]) :: (exf2 ++ (sl2, lsO (its.take (i + 1))) :: (It, io) :: (fl, lsI st.folds) :: (L' + 1 + 1, ob) :: base), List.perm_append_comm_assoc [_] [_, _, _, _] _, (T, tpO [vI (codes.idxOf q2), vI (-sm2.1), vI sm2.2.1]) :: exf2, rfl, ?_⟩
      rw [hsnoc, hb, <- List.append_assoc]
      exact All2.snoc ⟨T, rfl, .head _⟩ (hA2.mono fun _ _ h => h.mono fun p hp => .tail _ hp)
     ·refine ⟨exf2, rfl, ?_⟩
      rw [hsnoc, hb, cond_false, List.append_nil]
      exact hA2
    ·(intro ys2; intro _; intro z1y; refine E_ea z1y fun exf2 z2z hA2 => ?_; (try clear z1y); subst z2z)
     refine ⟨exf2, rfl, ?_⟩
     rw [hfT]
     rw [List.length_map, List.take_length] at hA2
     exact hA2
   ·(intro ys; intro _; intro D; intro z1y; refine E_ea z1y fun exf z2z hA => ?_; (try clear z1y); subst z2z)
    rw [List.take_of_length_le (by rw [q1d hSEt]; exact Nat.le_refl _)] at hA
    have hTX : All2 (TriE (((D, lsO ys) :: (exf ++ [(sl2, lsO (its.take (i + 1))), (It, io)])) ++ base)) ys (q0j codes (ss.take (i + 1)) st.begin) := hA.mono fun _ _ h => h.mono fun p hp => .tail _ (List.mem_append_left _ (List.mem_append_left _ hp))
    have hX : ((It, io) :: base).Sublist (((D, lsO ys) :: (exf ++ [(sl2, lsO (its.take (i + 1))), (It, io)])) ++ base) := by
     rw [List.cons_append, List.append_assoc]
     exact .cons _ (.trans (.cons _ (.refl _)) (List.sublist_append_right exf _))
    have hXD : (((D, lsO ys) :: (exf ++ [(sl2, lsO (its.take (i + 1))), (It, io)])) ++ base)[0]? = some (D, lsO ys) := rfl
    have hXp : ((D, lsO ys) :: (exf ++ (sl2, lsO (its.take (i + 1))) :: (It, io) :: (fl, lsI st.folds) :: (L' + 1 + 1, ob) :: base)).Perm ((fl, lsI st.folds) :: (L' + 1 + 1, ob) :: (((D, lsO ys) :: (exf ++ [(sl2, lsO (its.take (i + 1))), (It, io)])) ++ base)) := by
     have h := List.perm_append_comm_assoc ((D, lsO ys) :: (exf ++ [(sl2, lsO (its.take (i + 1))), (It, io)])) [(fl, lsI st.folds), (L' + 1 + 1, ob)] base
     rw [List.cons_append, List.append_assoc] at h
     exact h
    refine Bd.perm hXp ?_
    clear hXp hA
    generalize (((D, lsO ys) :: (exf ++ [(sl2, lsO (its.take (i + 1))), (It, io)])) ++ base) = X at *
    have fin3 : ∀ o1 o2 c2 m2 s, SS c2 m2 ((fl, o1) :: (L' + 1 + 1, o2) :: X) s -> SS c2 m2 ((It, io) :: (fl, o1) :: (L' + 1 + 1, o2) :: base) s := fun o1 o2 c2 m2 s S => S.pick _ (.cons_cons _ (.cons_cons _ hX)) (List.perm_append_comm_assoc [_, _] [_] base)
    (refine E_e (q16 (hX.subset (.tail _ (List.mem_of_getElem? hsl1)))) fun jX hjX => ?_)
    (refine E_e (q16 (hX.subset (.tail _ hsm1))) fun jX2 hjX2 => ?_)
    have hu2 : c.un + 3 + 100 < cLine := Nat.lt_of_le_of_lt (by rw [Nat.add_assoc]; exact Nat.add_le_add_left (by decide) _) hu
    refine Bd.ite (Tb.ne0 (i := 2) (vs := ys) (by wtm_at "ev") hXD hu2 rfl) (fun hbt => ?_) (fun hbt => ?_)
    ·have hne : ys ≠ [] := fun e => of_decide_eq_true hbt (congrArg List.length e)
     (refine E_ee (by
      cases hf : q0j codes (ss.take (i + 1)) st.begin with
      | nil => rw [hf] at hTX; exact absurd (List.length_eq_zero_iff.mp hTX.len) hne
      | cons b r => exact ⟨b, r, rfl⟩ : ∃ b r, q0j codes (ss.take (i + 1)) st.begin = b :: r) fun b r hbr => ?_)
     rw [hbr] at hTX
     rw [qcj hgt hbr]
     refine Bd.assignG okc (EvG.minT (i := 2) (by wtm_at "ev") (by wtm_at "ev") hXD (hTX.mono fun _ _ h => h.mono fun p hp => .tail _ (.tail _ hp)) hu2 rfl rfl) (fun v l hv => ?_) rfl rfl
     (refine qg0 hv fun z1z T z2z hT => ?_; (try clear hv); subst z1z; subst z2z)
     (refine E_e (q16 hT) fun jT hjT => ?_)
     refine Bd.assignC okc (Ev.g (Ev.neg (Ev.titem (i := jT) (j := 1) (by wtm_at "ev") Ev.int hjT (by decide) (by decide) rfl rfl (by intro u; rfl)))) rfl rfl (fun v l hv => ?_) rfl
     (refine E_a hv fun z1z z2z => ?_; (try clear hv); subst z1z; subst z2z)
     refine ⟨1, ob, _, rfl, hb1, fun ob2 hob2 => ?_⟩
     (refine E_ea hob2 fun vb2 h3 h4 => ?_; (try clear hob2))
     have hjT2 := q6f (r := (L' + 1 + 1, ob2)) hjT (j := 1) rfl (fun e => by have e2 := congrArg (fun p : Addr × Obj => p.2.data) e; rw [hb1] at e2; cases e2)
     change ((fl, lsI st.folds) :: (L' + 1 + 1, ob2) :: X)[jT]? = _ at hjT2
     change Bd _ _ ((fl, lsI st.folds) :: (L' + 1 + 1, ob2) :: X) _ _
     refine Bd.app (i := 0) (vs := st.folds.map vI) (v := vI (q1t b r).2.2) (by wtm_at "ev") (Ev.titem (j := 2) (by wtm_at "ev") Ev.int hjT2 (by decide) (by decide) rfl rfl (by intro u; rfl)) rfl (by rw [List.length_map]; exact hfl1) ?_ rfl rfl rfl
     refine Bd.assign okc (v := vI wd) (by wtm_at "ev") (Bd.fall (Bd.fall (Bd.nil fun s S => ?_))) rfl rfl
     refine ⟨.inl rfl, updM (updM (updM (updM m1 (Str.ofString "turn") (.int i 0)) (Str.ofString "found") (.ref D)) (Str.ofString "best") (.ref T)) (Str.ofString "room") (vI wd), (fl, lsI (st.folds ++ [(q1t b r).2.2])) :: (L' + 1 + 1, ob2) :: base, ⟨ob2, vb2, rfl, h3, h4, rfl, g2, g3, g4, g5, ?_⟩, ?_⟩
     rotate_left
     ·rw [q3y]; exact fin3 _ _ _ _ _ S
     ·show (_ ++ [_]).length <= _
      rw [List.length_append]; exact Nat.add_le_add_right hfl 1
    ·have hf0 : q0j codes (ss.take (i + 1)) st.begin = [] := List.length_eq_zero_iff.mp (hTX.len ▸ Decidable.not_not.mp (of_decide_eq_false hbt))
     refine Bd.ite (Tb.lt (by wtm_at "ev") (by wtm_at "ev") rfl) (fun hb3 => ?_) (fun hb3 => ?_)
     ·rw [qck hgt hf0 (of_decide_eq_true hb3), hsg]
      have hti : its[(i : Int).toNat]? = some (.ref tsm) := hvsm
      refine Bd.assignC okc (Ev.g (Ev.titem (i := jX2 + 2) (j := 0) (Ev.item (i := jX + 2) (vs := its) (by wtm_at "ev") (by wtm_at "ev") hjX (by exact Int.natCast_nonneg _) (by exact o33 hi63) hti (by intro u; rfl)) Ev.int hjX2 (by decide) (by decide) rfl rfl (by intro u; rfl))) rfl rfl (fun v l hv => ?_) rfl
      (refine E_a hv fun z1z z2z => ?_; (try clear hv); subst z1z; subst z2z)
      refine ⟨1, ob, _, rfl, hb1, fun ob2 hob2 => ?_⟩
      (refine E_ea hob2 fun vb2 h3 h4 => ?_; (try clear hob2))
      change Bd _ _ ((fl, lsI st.folds) :: (L' + 1 + 1, ob2) :: X) _ _
      refine Bd.app (i := 0) (vs := st.folds.map vI) (v := vI sm.2.1) (by wtm_at "ev") (Ev.titem (i := jX2 + 2) (j := 1) (Ev.item (i := jX + 2) (vs := its) (by wtm_at "ev") (by wtm_at "ev") hjX (by exact Int.natCast_nonneg _) (by exact o33 hi63) hti (by intro u; rfl)) Ev.int hjX2 (by decide) (by decide) rfl rfl (by intro u; rfl)) rfl (by rw [List.length_map]; exact hfl1) ?_ rfl rfl rfl
      refine Bd.assign okc (v := vI wd) (by wtm_at "ev") (Bd.fall (Bd.fall (Bd.fall (Bd.nil fun s S => ?_)))) rfl rfl
      refine ⟨.inl rfl, updM (updM (updM m1 (Str.ofString "turn") (.int i 0)) (Str.ofString "found") (.ref D)) (Str.ofString "room") (vI wd), (fl, lsI (st.folds ++ [sm.2.1])) :: (L' + 1 + 1, ob2) :: base, ⟨ob2, vb2, rfl, h3, h4, rfl, g2, g3, g4, g5, ?_⟩, ?_⟩
      rotate_left
      ·rw [q3y]; exact fin3 _ _ _ _ _ S
      ·show (_ ++ [_]).length <= _
       rw [List.length_append]; exact Nat.add_le_add_right hfl 1
     ·rw [qdc hgt hf0 (of_decide_eq_false hb3)]
      refine Bd.fall (Bd.fall (Bd.fall (Bd.nil fun s S => ⟨.inl rfl, updM (updM m1 (Str.ofString "turn") (.int i 0)) (Str.ofString "found") (.ref D), (fl, lsI st.folds) :: (L' + 1 + 1, ob) :: base, ⟨ob, vb, rfl, hb1, hb2, g1, g2, g3, g4, g5, Nat.le_succ_of_le hfl⟩, fin3 _ _ _ _ _ S⟩)))
end
example : True := by
 k_with_none
 trivial
section
section
variable {c : Cx} {m : Fm} {led : Led} {a b e : Expr} {pos : Pos} {rest : List Stmt} {P : Flow -> Shared -> Prop} {x : Str}
theorem q8j {It : Addr} {n : Nat} {val : Nat -> Value} {IT : Nat -> Obj -> Prop} {Pv : Nat -> Value -> Prop} {St : Nat -> Heap -> Prop} (W : Walks Challenge.rw_un0030_01.row.prog c.w c.A It [It] [It] n Pv St) (hfix : ∀ i o, IT i o -> fixD o.data = true)
  (hto : ∀ i h io, IT i io -> h.get? It = some io -> St i h) (hof : ∀ i h, St i h -> ∃ io, h.get? It = some io /\ IT i io) (hv : ∀ i v, Pv i v -> eV v = val i) : Itr c It n val IT (fun _ => True) := by
 refine ⟨hfix, ?_, ?_, ?_⟩
 ·rintro i m1 l1 s2 Q2 E2 hi - ⟨io, hI, S2⟩ k2
  refine W.item i s2 Q2 E2 hi (hto i _ _ hI (S2.head (hfix _ _ hI))) fun v h' tk hp hst hk => ?_
  (refine E_ea (hof _ _ hst) fun io' g1 g2 => ?_)
  exact k2 v _ (hv _ _ hp) ⟨io', g2, S2.step hk g1 (hfix _ _ g2)⟩
 ·rintro m1 l1 s2 Q2 E2 - ⟨io, hI, S2⟩ k2
  exact W.done s2 Q2 E2 (hto _ _ _ hI (S2.head (hfix _ _ hI))) fun h' tk hk => k2 _ (S2.past hk)
 ·intro io m1 l1 s2 Q2 E2 hI S2 k2
  exact W.self 0 s2 Q2 E2 (hto 0 _ _ hI (S2.head (hfix _ _ hI))) k2
noncomputable def qhf (c : Cx) (It : Addr) (io : Obj) (P : Flow -> Shared -> Prop) (J PB : Fm -> Led -> Prop) : Flow -> Shared -> Prop
 | .brk, s' => ∃ m2 led2, PB m2 led2 /\ SS c m2 led2 s'
 | .ret v, s' => P (.ret v) s'
 | _, s' => ∃ m2 led2, J m2 led2 /\ SS c m2 ((It, io) :: led2) s'
theorem Bd.forE {n : Nat} {px : Pos} {it : Expr} {body orelse : List Stmt} {val : Nat -> Value} {IT : Addr -> Nat -> Obj -> Prop} {W : Addr -> Obj -> Led -> Prop} (ok : c.Ok) (hk : c.env.kindOf x = some .local) (hit : ItE c m led it W) (I : Nat -> Fm -> Led -> Prop) (PB : Fm -> Led -> Prop)
  (hW : ∀ It io l, W It io l -> IT It 0 io /\ I 0 m l) (H : ∀ It, Itr c It n val (IT It) (fun _ => True))
  (turn : ∀ It i m1 led1 io, i < n -> I i m1 led1 -> Bd c (updM m1 x (val i)) ((It, io) :: led1) body (qhf c It io P (I (i + 1)) PB))
  (broke : ∀ m1 led1, PB m1 led1 -> Bd c m1 led1 rest P)
  (done : ∀ m1 led1, I n m1 led1 -> Bd c m1 led1 orelse (q3t c rest P)) (hfs : ∀ v : Value, foldedSetIterable it c.env v = pure v) : Bd c m led (.For (.Name x px) it body orelse pos :: rest) P := by
 intro Q E s hE S k
 have fin : ∀ f s', q3t c rest P f s' -> (match f with | .next => wpAny c.M c.A (execs rest c.env) Q E s' | f => Q f s') := by
  intro f s' h
  cases f with
  | next => exact h Q E hE k
  | _ => exact k _ _ h
 refine wpAny_execs_cons (wpAny_For (hit _ _ _ s S fun It io l s' hWi S' => ?_) hfs)
 (refine E_a (hW _ _ _ hWi) fun hI0 hJ0 => ?_)
 have H := H It
 refine codeAny_forLoop_any (fun k s' => ∃ i m1 led1, I i m1 led1 /\ (∃ io, IT It i io /\ SS c m1 ((It, io) :: led1) s') /\ i <= n /\ k = n + 1 - i) ?_ (n + 1) ⟨0, m, l, hJ0, ⟨io, hI0, S'⟩, Nat.zero_le _, rfl⟩
 (intro j; intro s'; intro z1y; refine q09 z1y fun i m1 led1 hI hS1 hi z2z => ?_; (try clear z1y); subst z2z)
 by_cases hlt : i < n
 ·refine H.nx i m1 led1 s' _ _ hlt trivial hS1 fun v' s2 hv hS2 => ?_
  (refine E_ea hS2 fun io hio S2 => ?_; (try clear hS2))
  refine wpAny_of_eq (a := ()) (by rfl) ?_
  refine wpAny_assign_Name (SS.store ok S2 hv hk fun s3 S3 => ?_)
  refine wpAny_passesOwn hE (turn It i m1 led1 io hlt hI _ _ s3 hE S3 fun f s4 h => ?_)
  have nxt : (∃ m2 led2, I (i + 1) m2 led2 /\ SS c m2 ((It, io) :: led2) s4) -> ∃ m, m < n + 1 - i /\ ∃ i m1 led1, I i m1 led1 /\ (∃ io, IT It i io /\ SS c m1 ((It, io) :: led1) s4) /\ i <= n /\ m = n + 1 - i := fun ⟨m2, led2, hI2, S4⟩ => ⟨n + 1 - (i + 1), Nat.sub_lt_sub_left (Nat.lt_succ_of_lt hlt) (Nat.lt_succ_self i), i + 1, m2, led2, hI2, ⟨io, hio, S4⟩, hlt, rfl⟩
  cases f with
  | next => exact nxt h
  | cont => exact nxt h
  | brk => (refine q07 h fun m2 led2 hP S4 => ?_; (try clear h)); exact broke m2 led2 hP _ _ _ hE S4 k
  | ret v => exact k _ _ h
 ·obtain rfl : i = n := Nat.le_antisymm hi (Nat.le_of_not_lt hlt)
  refine H.nd m1 led1 s' _ _ trivial hS1 fun s2 S2 => ?_
  refine wpAny_passesOwn hE (done m1 led1 hI _ _ _ hE S2 fun f s3 h => fin f s3 h)
theorem Itr.ex {τ : Type} {It : Addr} {n : Nat} {val : Nat -> Value} {IT : τ -> Nat -> Obj -> Prop} {Inv : Led -> Prop} (h : ∀ t, Itr c It n val (IT t) Inv) : Itr c It n val (fun i o => ∃ t, IT t i o) Inv := by
 refine ⟨fun i o ⟨t, hi⟩ => (h t).fix i o hi, ?_, ?_, ?_⟩
 ·(intro i; intro m; intro l; intro s; intro Q; intro E; intro hi; intro hI; intro z1y; refine E_ea z1y fun io z2z S => ?_; (try clear z1y); obtain ⟨t, ht⟩ := z2z; intro k)
  exact (h t).nx i m l s Q E hi hI ⟨io, ht, S⟩ fun v s' hv ⟨io', h2, S'⟩ => k v s' hv ⟨io', ⟨t, h2⟩, S'⟩
 ·(intro m; intro l; intro s; intro Q; intro E; intro hI; intro z1y; refine E_ea z1y fun io z2z S => ?_; (try clear z1y); obtain ⟨t, ht⟩ := z2z; intro k)
  exact (h t).nd m l s Q E hI ⟨io, ht, S⟩ k
 ·(intro io; intro m; intro l; intro s; intro Q; intro E; intro z1y; refine E_e z1y fun t ht => ?_; (try clear z1y); intro S; intro k)
  exact (h t).it io m l s Q E ht S k
noncomputable def ITs (sp : Str) (i : Nat) (io : Obj) : Prop := ∃ t, io.cls = .type "str_ascii_iterator" /\ io.data = .fields #[.str sp t, .int i 0]
theorem qa1 {It : Addr} {sp : Str} : Itr c It sp.cps.size (fun i => .str ⟨#[sp.cps.getD i 0]⟩ 0) (ITs sp) (fun _ => True) :=
 Itr.ex fun t => q8j (Walks.strAscii rfl It sp t) (fun i o h => by rw [h.2]; rfl) (fun i h io hI hg => ⟨io, hg, hI.1, hI.2⟩) (fun i h ⟨o, ho, r⟩ => ⟨o, ho, r⟩) fun i v ⟨d, td, h1, h2⟩ => by rw [h2, Array.getD_eq_getD_getElem?, h1]; rfl
theorem ItE.str {sp : Str} (he : Ev c m led e (.str sp 0)) (ha : sp.cps.all (· < 128) = true) : ItE c m led e (fun _ io l => ITs sp 0 io /\ l = led) := by
 intro Q E E' s S k
 refine he _ _ s S fun ve s1 ee S1 => ?_
 (refine E_e (q0i ee) fun t z1z => ?_; subst z1z)
 exact wpAny_pyIter_ascii ha (k _ _ _ _ ⟨⟨t, rfl, rfl⟩, rfl⟩ (S1.push rfl rfl))
noncomputable def ITg (a c : Int) (n i : Nat) (io : Obj) : Prop := io = { cls := .type "range_iterator", dict := none, data := .fields #[rawInt (a + (i : Nat) * c), rawInt ((n : Int) - (i : Nat)), rawInt c], slots := #[] }
theorem qei {It : Addr} {p q : Int} {n : Nat} : Itr c It n (fun i => vI (p + (i : Nat) * q)) (ITg p q n) (fun _ => True) :=
 q8j (Walks.range rfl It p q n) (fun i o h => by rw [h]; rfl) (fun i h io hI hg => by rw [hI] at hg; exact hg) (fun i h hst => ⟨_, hst, rfl⟩) fun i v ⟨t, e⟩ => by rw [e]; rfl
theorem ItE.down {n : Nat} {f : Expr} {es : List Expr} {p2 : Pos} (hf : Ev c m led f (.type "range")) (he : EvA c m led (a :: es) [vI n, vI 0, vI (-1)]) (hn : n < 1000)
  (hc : eval (.Call f (a :: es) [] p2) c.env = (do callWith p2 (<- eval f c.env) [] (backTo p2 (starEach (a :: es) c.env)) (backToKw p2 (keywordEach [] c.env)))) (hs : starEach (a :: es) c.env = (false, eval a c.env) :: starEach es c.env) (hs2 : ((backTo p2 (starEach es c.env)).any fun x => x.fst) = false) : ItE c m led (.Call f (a :: es) [] p2) (fun _ io l => ITg n (-1) n 0 io /\ l = led) := by
 intro Q E E' s S k
 refine Call_ (hf _ _ s S fun vf s0 ef S0 => ?_) hc
 obtain rfl := q44 ef
 refine PyProof.Rows.callWith_type1 (he _ _ _ s0 S0 fun vs' s1 ev S1 => ?_) hs hs2
 (refine q2n (ex3 ((List.length_map (f := eV) ▸ congrArg List.length ev : vs'.length = 3))) fun v1 v2 v3 z1z => ?_; subst z1z)
 simp only [List.map_cons, List.map_nil, List.cons.injEq, and_true] at ev
 (refine E_e (q0a ev.1) fun t1 z1z => ?_; subst z1z)
 (refine E_e (q0a ev.2.1) fun t2 z1z => ?_; subst z1z)
 (refine E_e (q0a ev.2.2) fun t3 z1z => ?_; subst z1z)
 (refine q00 S1 fun m' led' F hm' N hl hnd hg => ?_; (try clear S1))
 refine range3_rows F N (by decide) (fun h' tk t1 u1 v1 hR F' N' _ => ?_) (.inl (PyProof.noPylong_small (by decide)))
 (refine E_a (qb5 n hn) fun h1 h2 => ?_)
 refine wpAny_pyIter_range hR h1 ?_
 rw [h2]
 refine k _ _ _ _ ⟨?_, rfl⟩ (SS.push (s := { s1 with heap := h', toks := tk }) ⟨m', led', F', hm', N', hl, hnd, hg⟩ rfl rfl)
 show ITg n (-1) n 0 _
 unfold ITg
 congr 3
end
end
section
section
variable {c : Cx} {m : Fm} {led : Led} {a b e : Expr} {pos : Pos} {rest : List Stmt} {P : Flow -> Shared -> Prop} {xa xb : Str}
noncomputable def ZL (z TI TO it l : Addr) (vs : List Value) (io : Obj) (x y : Value) (led : Led) : Led := (z, zipO TI TO .none) :: (TO, tpO [x, y]) :: (TI, tpO [.ref it, .ref it]) :: (it, io) :: (l, lsO vs) :: led
theorem q36 {led' r : Led} {p : Addr × Obj} (h : led'.map eP = p :: r) : ∃ o' r', led' = (p.1, o') :: r' /\ eO o' = p.2 /\ r'.map eP = r := by
 (refine q08 (List.map_eq_cons_iff.mp h) fun z1z r' z2z h1 h2 => ?_; obtain ⟨q1, q2⟩ := z1z; subst z2z)
 obtain rfl : q1 = p.1 := congrArg Prod.fst h1
 exact ⟨q2, r', rfl, congrArg Prod.snd h1, h2⟩
theorem qgy {n x1 : Nat} {px py pt : Pos} {body : List Stmt} {vs : List Value} {z TI TO it l : Addr} {a0 b0 : Value} {io : Obj} (ok : c.Ok) (I : Nat -> Fm -> Led -> Prop) (hxa : c.env.kindOf xa = some .local) (hxb : c.env.kindOf xb = some .local) (hvn : vs.length = 2 * n)
  (turn : ∀ i x y io m1 led1, i < n -> vs[2 * i]? = some x -> vs[2 * i + 1]? = some y -> I i m1 led1 -> Bd c (updM (updM m1 xa x) xb y) (ZL z TI TO it l vs io x y led1) body (fun f s' => (f = .next ∨ f = .cont) /\ ∃ m2 led2, I (i + 1) m2 led2 /\ SS c m2 (ZL z TI TO it l vs io x y led2) s'))
  (done : ∀ m1 led1, I n m1 led1 -> Bd c m1 led1 rest P) {Q : Flow -> Shared -> Prop} {E : Value -> Shared -> Prop} {s : Shared} (hE : PassesOwn c.M c.A c.env E) (k : ∀ f s', P f s' -> Q f s')
  (h0 : I 0 m led) (hio : LiAt io l 0) (hS : SS c m (ZL z TI TO it l vs io a0 b0 led) s) :
  codeAny c.M c.A (.forLoop (.Tuple [.Name xa px, .Name xb py] x1 pt) (.ref z) body [] c.env) (fun r s' => match r with | .ok f => (match f with | .next => wpAny c.M c.A (execs rest c.env) Q E s' | f => Q f s') | .error e => cameBackBy c.M c.A c.env E e s') s := by
 refine codeAny_forLoop_any (fun k s' => ∃ i m1 led1 x y io, I i m1 led1 /\ LiAt io l (2 * i) /\ SS c m1 (ZL z TI TO it l vs io x y led1) s' /\ i <= n /\ k = n + 1 - i) ?_ (n + 1) ⟨0, m, led, a0, b0, io, h0, hio, hS, Nat.zero_le _, rfl⟩
 (intro j; intro s'; intro z1y; refine q6b z1y fun i m1 led1 x0 y0 io hI hio hS hi z2z => ?_; (try clear z1y); subst z2z)
 (refine q00 hS fun m' led' F' hm' N' hl hn hg => ?_; (try clear hS))
 (refine q08 (q36 hl) fun o1 r1 z1z e1 hl1 => ?_; subst z1z)
 (refine q08 (q36 hl1) fun o2 r2 z1z e2 hl2 => ?_; subst z1z)
 (refine q08 (q36 hl2) fun o3 r3 z1z e3 hl3 => ?_; subst z1z)
 (refine q08 (q36 hl3) fun o4 r4 z1z e4 hl4 => ?_; subst z1z)
 (refine q08 (q36 hl4) fun o5 r5 z1z e5 hl5 => ?_; subst z1z)
 clear hl hl1 hl2 hl3 hl4
 dsimp only at e1 e2 e3 e4 e5 N'
 obtain rfl := q0z e1 rfl
 obtain rfl := q0z e4 (by rw [hio.2]; rfl)
 (refine E_ea (q3d e2) fun w2 z1z f2 => ?_; subst z1z)
 (refine E_ee (ex2 ((List.length_map (f := eV) ▸ congrArg List.length f2 : w2.length = 2))) fun x0' y0' z1z => ?_; subst z1z)
 (refine E_ea (q3d e3) fun w3 z1z f3 => ?_; subst z1z)
 (refine E_ee (ex2 ((List.length_map (f := eV) ▸ congrArg List.length f3 : w3.length = 2))) fun q1 q2 z1z => ?_; subst z1z)
 simp only [List.map_cons, List.map_nil, List.cons.injEq, and_true] at f3
 obtain rfl := q04 f3.1
 obtain rfl := q04 f3.2
 (refine q07 (q0b e5) fun vs' kl z1z f5 => ?_; subst z1z)
 have hn' := hn
 simp only [ZL, List.map_cons, List.nodup_cons, List.mem_cons, not_or] at hn'
 (refine qeq hn' fun z1z z2z z3z z4z d15 d16 => ?_; (try clear hn'); obtain ⟨d1, d2, d3, d4, d5⟩ := z1z; obtain ⟨d6, d7, d8, d9⟩ := z2z; obtain ⟨d10, d11, d12⟩ := z3z; obtain ⟨d13, d14⟩ := z4z)
 have D : Zip1 z TI TO it l := ⟨Ne.symm d2, Ne.symm d1, Ne.symm d3, Ne.symm d6, d10, d7, Ne.symm d4, Ne.symm d8, Ne.symm d13⟩
 have hz := (N' _ (.head _)).1
 have hTO := (N' _ (.tail _ (.head _))).1
 have hTI := (N' _ (.tail _ (.tail _ (.head _)))).1
 have hit : s'.heap.IsListIter it l (2 * i) := ⟨_, (N' _ (.tail _ (.tail _ (.tail _ (.head _))))).1, hio.1, hio.2⟩
 have hL : s'.heap.IsList l vs'.toArray := News.isList N' (.tail _ (.tail _ (.tail _ (.tail _ (.head _)))))
 have hvl : vs'.length = 2 * n := by rw [<- hvn, <- f5, List.length_map]
 have n0 : ∀ {p}, p ∈ ((z, zipO TI TO .none) :: (TO, q3s x0' y0') :: (TI, q3s (.ref it) (.ref it)) :: (it, o4) :: (l, W.listOf vs'.toArray kl) :: r5 : Led) -> c.L ≠ p.1 /\ ∀ b o, c.h₀.get? b = some o -> b ≠ p.1 := fun hp => ⟨fun e => (N' _ hp).2.1 e.symm, fun b o h e => by rw [e, (N' _ hp).2.2] at h; cases h⟩
 have nz := n0 (.head _)
 have nTO := n0 (.tail _ (.head _))
 have nit := n0 (.tail _ (.tail _ (.tail _ (.head _))))
 have off : ∀ p ∈ r5, p.1 ≠ z /\ p.1 ≠ TO /\ p.1 ≠ it := by
  intro p hp
  have hm : p.1 ∈ led1.map (·.1) := by rw [<- hl5, q59]; exact List.mem_map.mpr ⟨p, hp, rfl⟩
  exact ⟨fun e => d5 (e ▸ hm), fun e => d9 (e ▸ hm), fun e => d14 (e ▸ hm)⟩
 by_cases hlt : i < n
 ·(refine E_e (⟨_, List.getElem?_eq_getElem (by exact o232 hvl hlt)⟩ : ∃ x, vs'[2 * i]? = some x) fun x hx => ?_)
  (refine E_e (⟨_, List.getElem?_eq_getElem (by exact o231 hvl hlt)⟩ : ∃ y, vs'[2 * i + 1]? = some y) fun y hy => ?_)
  refine qbt D hz hTI hTO hit hL (by simpa using hx) (by simpa using hy) fun h₁ hz₁ hTO₁ hit₁ hT₁ hsz₁ hk₁ => ?_
  refine wpAny_letOwnedTupleGo_zip hz₁ fun h₂ hz₂ hs₂ => ?_
  have lt : ∀ {c o}, s'.heap.get? c = some o -> s'.heap.objs.size ≠ c := fun e => Nat.ne_of_gt (Heap.lt_size e)
  have ht₂ : h₂.IsTuple s'.heap.objs.size #[x, y] := ⟨_, hs₂.extBut _ _ (lt hz) hT₁, rfl, _, rfl⟩
  refine wpAny_assign_Tuple rfl ht₂ rfl rfl fun h₃ hx₃ => ?_
  replace hx₃ : Heap.ExtBut h₂.objs.size h₂ h₃ := hx₃
  have up₃ : ∀ b o, h₂.get? b = some o -> h₃.get? b = some o := fun b o x => hx₃ b o (Nat.ne_of_lt (Heap.lt_size x)) x
  have up : ∀ c o, c ≠ z -> c ≠ TO -> c ≠ it -> s'.heap.get? c = some o -> h₃.get? c = some o := fun c o c1 c2 c3 e => up₃ c o (hs₂.extBut _ _ c1 (hk₁ c o c1 c2 c3 e))
  (refine q1u hit₁ fun io2 hio2 hic hid => ?_; (try clear hit₁))
  have S3 : SS c m1 (ZL z TI TO it l vs io2 (eV x) (eV y) led1) { s' with heap := h₃ } := by
   refine ⟨m', (z, zipO TI TO .none) :: (TO, q3s x y) :: (TI, q3s (.ref it) (.ref it)) :: (it, io2) :: (l, W.listOf vs'.toArray kl) :: r5, ⟨F'.ns.at' fun o e => up _ o nz.1 nTO.1 nit.1 e, fun b o e => up b o (nz.2 b o e) (nTO.2 b o e) (nit.2 b o e) (F'.keep b o e), F'.above⟩, hm', ?_, ?_, hn, hg⟩
   ·intro p hp
    rcases List.mem_cons.mp hp with rfl | hp
    ·exact ⟨up₃ _ _ hz₂, (N' _ (.head _)).2⟩
    rcases List.mem_cons.mp hp with rfl | hp
    ·exact ⟨up₃ _ _ (hs₂.extBut _ _ D.TOz hTO₁), (N' _ (.tail _ (.head _))).2⟩
    rcases List.mem_cons.mp hp with rfl | hp
    ·exact ⟨up _ _ D.TIz D.TITO D.TIit hTI, (N' _ (.tail _ (.tail _ (.head _)))).2⟩
    rcases List.mem_cons.mp hp with rfl | hp
    ·exact ⟨up₃ _ _ (hs₂.extBut _ _ D.itz hio2), (N' _ (.tail _ (.tail _ (.tail _ (.head _))))).2⟩
    rcases List.mem_cons.mp hp with rfl | hp
    ·exact ⟨up _ _ D.lz D.lTO D.lit (N' _ (.tail _ (.tail _ (.tail _ (.tail _ (.head _)))))).1, (N' _ (.tail _ (.tail _ (.tail _ (.tail _ (.head _)))))).2⟩
    ·exact ⟨up _ _ (off p hp).1 (off p hp).2.1 (off p hp).2.2 (N' p (.tail _ (.tail _ (.tail _ (.tail _ (.tail _ hp)))))).1, (N' p (.tail _ (.tail _ (.tail _ (.tail _ (.tail _ hp)))))).2⟩
   ·have e6 : eO io2 = io2 := by unfold eO; rw [hic]; rfl
    rw [List.map_cons, List.map_cons, List.map_cons, List.map_cons, List.map_cons, hl5]
    show (z, zipO TI TO .none) :: (TO, eO (q3s x y)) :: (TI, eO (q3s (.ref it) (.ref it))) :: (it, eO io2) :: (l, eO (W.listOf vs'.toArray kl)) :: led1 = _
    rw [q1y (vs' := [x, y]) rfl, q1y (vs' := [.ref it, .ref it]) rfl, e6, q13 f5]
    rfl
  show wpAny _ _ (do holding [y] (assign (.Name xa px) c.env x); do holding [] (assign (.Name xb py) c.env y); pure ()) _ _ _
  refine wpAny_bind (wpAny_holding (wpAny_assign_Name (SS.store ok S3 rfl hxa fun s4 S4 => wpAny_bind (wpAny_holding (wpAny_assign_Name (SS.store ok S4 rfl hxb fun s5 S5 => wpAny_pure ?_))))))
  have hx' : vs[2 * i]? = some (eV x) := by rw [<- f5, List.getElem?_map, hx]; rfl
  have hy' : vs[2 * i + 1]? = some (eV y) := by rw [<- f5, List.getElem?_map, hy]; rfl
  refine wpAny_passesOwn hE (turn i _ _ io2 m1 led1 hlt hx' hy' hI _ _ s5 hE S5 fun f s6 h => ?_)
  (refine q1i h fun hf m2 led2 hI2 S6 => ?_; (try clear h))
  have fin : ∃ k', k' < n + 1 - i /\ ∃ i m1 led1 x y io, I i m1 led1 /\ LiAt io l (2 * i) /\ SS c m1 (ZL z TI TO it l vs io x y led1) s6 /\ i <= n /\ k' = n + 1 - i := ⟨n + 1 - (i + 1), Nat.sub_lt_sub_left (Nat.lt_succ_of_lt hlt) (Nat.lt_succ_self i), i + 1, m2, led2, _, _, io2, hI2, ⟨hic, hid⟩, S6, hlt, rfl⟩
  rcases hf with rfl | rfl <;> exact fin
 ·obtain rfl : i = n := Nat.le_antisymm hi (Nat.le_of_not_lt hlt)
  refine qdg rfl D hz hTI hTO hit hL (by simp; exact o142 hvl) fun h₁ hk₁ => ?_
  refine wpAny_passesOwn hE (wpAny_execs_nil (done m1 led1 hI _ _ _ hE ⟨m', r5, ⟨F'.ns.at' fun o e => hk₁ _ o nz.1 nTO.1 nit.1 e, fun b o e => hk₁ b o (nz.2 b o e) (nTO.2 b o e) (nit.2 b o e) (F'.keep b o e), F'.above⟩, hm', fun p hp => ⟨hk₁ _ _ (off p hp).1 (off p hp).2.1 (off p hp).2.2 (N' p (.tail _ (.tail _ (.tail _ (.tail _ (.tail _ hp)))))).1, (N' p (.tail _ (.tail _ (.tail _ (.tail _ (.tail _ hp)))))).2⟩, hl5, d16, hg⟩ k))
end
end
end
end H
section
open PySem PySem.W PyProof.Rows PySem.Calls
example : True := by
 k_with_none
 k_with "k_room" => (ktr_room)
 k_with "m call builtin:next" => ((k_here; (with_reducible show wpAny _ _ (call (Value.builtin "next") [Value.ref _]) _ _ _); k_dflt (refine' qcb (by k_asm) (by k_asm) (by k_updF) (by k_mem) (by with_reducible assumption) ?_; k_whole; intro h' F' N'; (try k_sweep))))
 trivial
noncomputable def Dec : List Int -> Int -> Int -> Int -> Prop
 | [], b, v, z => b < 64 /\ v = z
 | c :: r, b, v, z => 64 <= b /\ (0 <= c /\ c < 128) /\ Dec r c (v * 64 + c % 64) z
theorem qfc {z : Int} (hz : 0 <= z /\ z < 262144) : ∃ c r, q0w z = c :: r /\ (0 <= c /\ c < 128) /\ Dec r c (c % 64) z := by
 rw [q30 hz]
 unfold hiOf
 by_cases h1 : z < 64
 ·rw [if_pos h1]
  exact ⟨z % 64, [], rfl, by omega, by show z % 64 < 64 /\ z % 64 % 64 = z; omega⟩
 rw [if_neg h1]
 by_cases h2 : z < 4096
 ·rw [if_pos h2]
  exact ⟨z / 64 + 64, [z % 64], rfl, by omega, by omega, by omega, by show z % 64 < 64 /\ (z / 64 + 64) % 64 * 64 + z % 64 % 64 = z; omega⟩
 ·rw [if_neg h2]
  exact ⟨z / 64 / 64 + 64, [z / 64 % 64 + 64, z % 64], rfl, by omega, by omega, by omega, by omega, by omega, by
   show z % 64 < 64 /\ ((z / 64 / 64 + 64) % 64 * 64 + (z / 64 % 64 + 64) % 64) * 64 + z % 64 % 64 = z; omega⟩
theorem qge : ∀ (r : List Int) (b v z : Int), 0 <= v -> Dec r b v z -> v <= z := by
 intro r
 induction r with
 | nil => intro b v z h0 h; exact Int.le_of_eq h.2
 | cons c r ih =>
  intro b v z h0 h
  have := ih c (v * 64 + c % 64) z (by omega) h.2.2
  omega
theorem qfy {b : Int} (h : 0 <= b) : Builtin.bitAnd b 63 = b % 64 := by
 (refine E_e (Int.eq_ofNat_of_zero_le h) fun a z1z => ?_; subst z1z)
 rw [show (63 : Int) = ((63 : Nat) : Int) from rfl, q3h]
 rw [show a &&& 63 = a % 64 from Nat.and_two_pow_sub_one_eq_mod a 6]
 omega
theorem qh4 {b : Int} (h : 0 <= b /\ b < 128) : Builtin.bitAnd b 64 = if b < 64 then 0 else 64 := by
 (refine E_e (Int.eq_ofNat_of_zero_le h.1) fun a z1z => ?_; subst z1z)
 rw [show (64 : Int) = ((64 : Nat) : Int) from rfl, q3h]
 have key : ∀ a : Fin 128, a.val &&& 64 = if a.val < 64 then 0 else 64 := by decide
 have h2 : a < 128 := by omega
 rw [key ⟨a, h2⟩]
 split <;> rename_i h3
 ·rw [if_pos (by dsimp only at h3; omega)]; rfl
 ·rw [if_neg (by dsimp only at h3; omega)]
theorem qaj (a b : Nat) : Builtin.bitOr (a : Int) (b : Int) = ((a ||| b : Nat) : Int) := by
 have nn : ∀ x : Int, Builtin.bitNot (Builtin.bitNot x) = x := fun x => by unfold Builtin.bitNot; omega
 have h1 : decide (0 <= Builtin.bitNot (a : Int)) = false := by rw [decide_eq_false_iff_not]; unfold Builtin.bitNot; omega
 have h2 : decide (0 <= Builtin.bitNot (b : Int)) = false := by rw [decide_eq_false_iff_not]; unfold Builtin.bitNot; omega
 unfold Builtin.bitOr Builtin.bitAnd
 rw [h1, h2]
 dsimp only
 rw [nn, nn, nn]
 rfl
theorem or64 {v c : Int} (hv : 0 <= v) (hc : 0 <= c /\ c < 64) : Builtin.bitOr (v * 64) c = v * 64 + c := by
 (refine E_e (Int.eq_ofNat_of_zero_le hv) fun a z1z => ?_; subst z1z)
 (refine E_e (Int.eq_ofNat_of_zero_le hc.1) fun b z1z => ?_; subst z1z)
 rw [show (a : Int) * 64 = ((2 ^ 6 * a : Nat) : Int) by omega, qaj]
 have := Nat.two_pow_add_eq_or_of_lt (i := 6) (b := b) (by omega) a
 rw [<- this]
 omega
noncomputable def qha (z : Int) (it l : Addr) (vs : List Value) (n : Nat) (cs9 tail : List Int) (r0 : Nat) (k0 : Nat) (j : Nat) (m' : Str -> Option Value) (led : List (Addr × Obj)) : Prop :=
 ∃ k rem b v tb tv, j = rem.length /\ k + rem.length = k0 + r0 /\ led = [(it, liO l k), (l, W.listOf vs.toArray n)] /\ cs9.drop k = rem ++ tail /\ Dec rem b v z /\ 0 <= v /\ (0 <= b /\ b < 128) /\ m' (Str.ofString "b") = some (.int b tb) /\ m' (Str.ofString "val") = some (.int v tv) /\ m' (Str.ofString "iterator") = some (.ref it)
theorem q8n {cs : List Int} {vs : List Value} (hI : IntsAre vs cs) {k : Nat} {c : Int} {r : List Int} (h : cs.drop k = c :: r) : ∃ t, vs[k]? = some (.int c t) := by
 have e : cs[k]? = some c := by
  have := congrArg (fun l => l[0]?) h
  simpa [List.getElem?_drop] using this
 exact IntsAre.get hI k c e
theorem q6t {cs : List Int} {k : Nat} {c : Int} {r : List Int} (h : cs.drop k = c :: r) : cs.drop (k + 1) = r := by
 have := congrArg (List.drop 1) h
 simpa [List.drop_drop, Nat.add_comm] using this
theorem qfx {w : World} {p : Program} {loose : List Str} {mean : ExcName -> Option Value} {mg mb : Str -> Option Value}
 {dp un : Nat} {gd : Option (List Code)} {cn : Str} {cs : Scope} {a : Addr} {ccd : Value} {cl : List (Str × Addr)} {outer : List Env} {A₀ : Around} {base h₀ : Heap} {L : Addr} {m : Str -> Option Value} {s : Shared}
 {Q E : Value -> Shared -> Prop} {it l : Addr} {k n : Nat} {vs : List Value} {cs9 tail : List Int} {z : Int} {rest : List (Addr × Obj)}
 (B : Below A₀ base outer h₀) (F : Fr h₀ L s.heap m) (X : (Mine.hd.heap_1 w.params).In h₀) (N : News h₀ L s.heap [(it, liO l k), (l, W.listOf vs.toArray n)]) (hr : News h₀ L s.heap rest) (hs : ∀ p ∈ rest, ∀ q ∈ ([(it, liO l k), (l, W.listOf vs.toArray n)] : List (Addr × Obj)), p.1 ≠ q.1) (T : Top p loose mean mg mb h₀) (hk : cs.kind = .function)
 (hne : @Ne Nat it l) (hI : IntsAre vs cs9) (hz : 0 <= z /\ z < 262144) (hdr : cs9.drop k = q0w z ++ tail)
 (hd : dp + 20 < recursionLimit) (hu : un + 200 < cLine)
 (ret : ∀ h' tk' t, Fr h₀ L h' m -> News h₀ L h' ((it, liO l (k + (q0w z).length)) :: (l, W.listOf vs.toArray n) :: rest) -> Q (.int z t) { s with heap := h', toks := tk' }) :
 wpAny (model Challenge.rw_un0030_01.row.prog w) (ktrTop dp un gd cn cs L a ccd cl outer) (call (.ref 45) [.ref it]) Q E s := by
 revert X
 k_fill
 intro X
 (refine q08 (qfc hz) fun c0 r0 eO hc0 hD0 => ?_)
 rw [eO] at hdr
 (refine E_e (q8n hI hdr) fun t0 hv0 => ?_)
 have hd1 := q6t hdr
 rw [eO] at ret
 refine wpAny_call ?_
 k_dflt ((refine' code_defR (by k_asm) (by k_asm) (by k_asm) N hr hs (by k_asm) (by exact rfl) (by exact rfl) (by first | exact rfl | assumption) (by k_is) (by k_is) (by k_room) (by first | exact BindsTo.of_eq rfl | exact binds_K (by k_in) rfl (by k_is) rfl rfl rfl | fail "no rule for these arguments") (by exact locs rfl) ?_ (by exact rfl) (by exact rfl) (by exact rfl) (by decide); k_whole; intro g' L' h' FG' F' N' B' X' T' l1 hr1; (try k_lt l1); (try (have l2 := allLt_up l1; have l3 := allLt_up l2; have l4 := allLt_up l3)); (try dsimp only); (try k_lift B'); (try k_fold)))
 repeat ((fail_if_success (k_here; with_reducible show wpAny _ _ (exec (PySem.Stmt.While _ _ _ _) _) _ _ _)); (first | (k_unfold; (try dsimp only)) | (dsimp only; walk1) | walk1))
 rename Fr g' _ _ _ => F8
 rename News g' _ _ (_ :: _) => N8
 rw [qfy hc0.1] at F8
 k_here
 refine While_inv (n₀ := r0.length) (h₀ := g') (L := L') (qha z it l vs n cs9 tail r0.length (k + 1)) F8 N8 ?hJ ?turn (by passes_own)
 case hJ => exact ⟨k + 1, r0, c0, c0 % 64, _, _, rfl, rfl, rfl, hd1, hD0, by omega, hc0, (by first | rfl | ((try dsimp only); repeat (first | rw [if_pos rfl] | rw [if_neg (by decide)]))), (by first | rfl | ((try dsimp only); repeat (first | rw [if_pos rfl] | rw [if_neg (by decide)]))), (by first | rfl | ((try dsimp only); repeat (first | rw [if_pos rfl] | rw [if_neg (by decide)])))⟩
 case turn =>
  intro j m₂ led₂ h₂ tk₂ F₂ N₂ hJ
  clear F8 N8
  (refine q38 hJ fun k2 rem b v tb tv z1z hkr z2z hdr2 hD hv hb hm1 hm2 hm3 => ?_; (try clear hJ); subst z1z; subst z2z)
  have em : m₂ = fun q => if q = Str.ofString "b" then some (.int b tb) else if q = Str.ofString "val" then some (.int v tv) else if q = Str.ofString "iterator" then some (.ref it) else m₂ q := by
   funext q
   by_cases e1 : q = Str.ofString "b"
   ·rw [if_pos e1, e1, hm1]
   rw [if_neg e1]
   by_cases e2 : q = Str.ofString "val"
   ·rw [if_pos e2, e2, hm2]
   rw [if_neg e2]
   by_cases e3 : q = Str.ofString "iterator"
   ·rw [if_pos e3, e3, hm3]
   ·rw [if_neg e3]
  rw [em] at F₂
  clear em
  have hvz := qge rem b v z hv hD
  repeat ((fail_if_success (with_reducible show (ite _ _ _))); (first | (k_unfold; (try dsimp only)) | (dsimp only; walk1) | walk1))
  rw [qh4 hb]
  cases rem with
  | nil =>
   (refine E_a hD fun hb64 z1z => ?_; (try clear hD); subst z1z)
   rw [if_pos hb64, if_neg (by decide)]
   have hk2 : k2 = k + (c0 :: r0).length := by simp only [List.length_cons, List.length_nil] at hkr ⊢; omega
   subst hk2
   repeat (first | (k_unfold; (try dsimp only)) | (dsimp only; walk1) | walk1)
   rename News h₀ L _ rest => NR
   rename News h₀ L _ (_ :: _) => NO
   exact ret _ _ _ (by k_asm) (q0n (NO _ (by k_mem)) (q0n (NO _ (by k_mem)) NR))
  | cons c r =>
   (refine E_aa hD fun hb64 hc hD2 => ?_; (try clear hD))
   rw [show (if b < 64 then (0 : Int) else 64) = 64 from if_neg (by omega), if_pos (by decide)]
   (refine E_e (q8n hI hdr2) fun tc hvc => ?_)
   have hdr3 := q6t hdr2
   have hv18 : v < 262144 := by omega
   repeat ((fail_if_success (with_reducible show WhileStep _ _ _ _ _ _ _)); (first | (k_unfold; (try dsimp only)) | (dsimp only; walk1) | walk1))
   rename Fr g' _ _ _ => F3
   rename News g' _ _ (_ :: _) => N3
   rw [qfy hc.1, show v * (2 : Int) ^ Int.toNat 6 = v * 64 from rfl, or64 hv ⟨by omega, by omega⟩] at F3
   refine WhileStep.intro (n' := r.length) F3 N3 (by simp) ⟨k2 + 1, r, c, v * 64 + c % 64, _, _, rfl, by simp only [List.length_cons] at hkr; omega, rfl, hdr3, hD2, by omega, hc, (by first | rfl | ((try dsimp only); repeat (first | rw [if_pos rfl] | rw [if_neg (by decide)]))), (by first | rfl | ((try dsimp only); repeat (first | rw [if_pos rfl] | rw [if_neg (by decide)]))), (by first | rfl | ((try dsimp only); repeat (first | rw [if_pos rfl] | rw [if_neg (by decide)])))⟩
example : True := by
 k_with_none
 k_with "omega" => (first | assumption | exact Nat.le_refl _ | exact Nat.ne_of_lt (by assumption) | exact Nat.ne_of_gt (by assumption) | exact Nat.le_of_lt (by assumption) | lia)
 k_with "k_room" => (ktr_room)
 trivial
theorem q5k {zs : List Int} {i : Nat} {z : Int} (h : zs[i]? = some z) : (q01 zs).drop (q01 (zs.take i)).length = q0w z ++ q01 (zs.drop (i + 1)) := by
 have e : q01 zs = q01 (zs.take i) ++ (q0w z ++ q01 (zs.drop (i + 1))) := by
  have h1 : zs = zs.take i ++ (z :: zs.drop (i + 1)) := by
   have h2 := (List.take_append_drop i zs).symm
   have h3 : zs.drop i = z :: zs.drop (i + 1) := by
    (refine E_e (List.getElem?_eq_some_iff.mp h) fun h4 h5 => ?_)
    rw [List.drop_eq_getElem_cons h4, h5]
   rw [h3] at h2
   exact h2
  conv => lhs; rw [h1]
  rw [q1a]
  congr 1
 rw [e]
 exact List.drop_left' rfl
theorem q5x {zs : List Int} {i : Nat} {z : Int} (h : zs[i]? = some z) : (q01 (zs.take (i + 1))).length = (q01 (zs.take i)).length + (q0w z).length := by
 rw [List.take_add_one, h, q1a, List.length_append, show q01 (some z).toList = q0w z from q1r z]
noncomputable def ReadSt (zs : List Int) (tl it l : Addr) (us : List Value) (news : List (Addr × Obj)) (j : Nat) (m' : Str -> Option Value) (led : List (Addr × Obj)) : Prop :=
 ∃ i told k, j = zs.length - i /\ i <= zs.length /\ led = [(tl, W.listOf told.toArray k), (it, liO l (q01 (zs.take i)).length), (l, W.listOf us.toArray 0)] ++ news /\ IntsAre told (zs.take i) /\ m' (Str.ofString "told") = some (.ref tl) /\ m' (Str.ofString "stream") = some (.ref it)
theorem qdl {w : World} {p : Program} {loose : List Str} {mean : ExcName -> Option Value} {mg mb : Str -> Option Value}
 {dp un : Nat} {gd : Option (List Code)} {cn : Str} {cs : Scope} {a : Addr} {ccd : Value} {cl : List (Str × Addr)} {outer : List Env} {A₀ : Around} {base h₀ : Heap} {L : Addr} {m : Str -> Option Value} {s : Shared}
 {Q E : Value -> Shared -> Prop} {x : Str} {tx : Tok} {zs : List Int} {news : List (Addr × Obj)}
 (XB : (Mine.hd.heap_1 w.params).In base) (TB : Top p loose mean mg mb base) (B : Below A₀ base [] h₀) (F : Fr h₀ L s.heap m) (X : (Mine.hd.heap_1 w.params).In h₀) (N : News h₀ L s.heap news) (T : Top p loose mean mg mb h₀) (hk : cs.kind = .function)
 (hx : (x.cps.toList ++ [0]).map Int.ofNat = q01 zs) (hz : ∀ z ∈ zs, 0 <= z /\ z < 262144) (hxl : x.cps.size <= 200) (hzl : zs.length <= 100)
 (hd : dp + 50 < recursionLimit) (hu : un + 400 < cLine)
 (ret : ∀ s' D its k, Fr h₀ L s'.heap m -> s'.gens = s.gens -> s'.os = s.os -> News h₀ L s'.heap ((D, W.listOf its.toArray k) :: news) -> (∀ p ∈ news, @Ne Nat p.1 D) -> IntsAre its zs -> Q (.ref D) s') :
 wpAny (model Challenge.rw_un0030_01.row.prog w) (ktrTop dp un gd cn cs L a ccd [] []) (call (.ref 289) [.str x tx]) Q E s := by
 revert X
 k_fill
 intro X
 refine wpAny_call ?_
 k_dflt ((refine' code_defS0 (by k_asm) (by k_asm) (by k_asm) N (by k_asm) (by exact rfl) (by k_is) (by k_is) (by k_room) (by first | exact BindsTo.of_eq rfl | exact binds_K (by k_in) rfl (by k_is) rfl rfl rfl | fail "no rule for these arguments") (by exact locs rfl) ?_ (by first | exact rfl | assumption) (by exact rfl) (by exact rfl) (by exact rfl) (by decide); k_whole; intro g' L' h' FG' F' N' B' X' T' D'; (try dsimp only); (try k_lift B'); (try k_fold)))
 repeat ((fail_if_success (k_here; with_reducible show wpAny _ _ (eval (Expr.ListComp _ _ _ _) _) _ _ _)); (first | (k_unfold; (try dsimp only)) | (dsimp only; walk1) | walk1))
 k_here
 k_dflt (refine' ListComp_rowsP ?zc1 ?zc2 ?zc3 ?zc4 ?zc5 ?zc6 ?zc7)
 case zc1 => decide
 case zc2 => decide
 case zc3 => exact rfl
 case zc4 => decide
 case zc5 => exact rfl
 case zc7 => intro x; rfl
 repeat ((fail_if_success (k_here; with_reducible show wpAny _ _ (pyIter (Value.str _ _)) _ _ _)); (first | (k_unfold; (try dsimp only)) | (dsimp only; walk1) | walk1))
 k_here
 k_dflt (refine' qcf (fun c => (c : Int)) ?zh ?zF ?zN ?zs ?zg ?_; (case zh => exact rfl); (case zF => k_asm); (case zN => k_asm); (case zs => (have h3 : sizeLine = 16777216 := rfl; omega)))
 case zg =>
  intro C c tc s₂ m₂ E' hc hn hm hkp
  rename Fr g' _ _ _ => F9
  repeat ((fail_if_success (k_here; with_reducible show wpAny _ _ (eval (Expr.Name (Str.ofString "ord") _) _) _ _ _)); (first | (k_unfold; (try dsimp only)) | (dsimp only; walk1) | walk1))
  k_here
  k_dflt (refine' qf1 ?zn1 ?zn2 ?zn3 ?zn4 ?zn5 ?zn6 ?zn7 ?zn8 ?_; (case zn1 => exact rfl); (case zn2 => exact rfl); (case zn3 => exact fun b o e => hkp b o (F9.keep b o e)); (case zn4 => k_asm); (case zn5 => k_asm); (case zn6 => k_is); (case zn7 => boot_by_name); (case zn8 => decide))
  repeat ((fail_if_success (k_here; with_reducible show wpAny _ _ (call (Value.builtin "ord") _) _ _ _)); (first | (k_unfold; (try dsimp only)) | (dsimp only; walk1) | walk1))
  k_here
  refine ord_of_one (x := ⟨#[c]⟩) (by rfl) ?_
  exact ⟨⟨_, rfl⟩, ⟨_, _, rfl, fun _ _ e => e⟩⟩
 intro D ys h3 tk3 k3 F3 N3 hne3 hI3
 skip
 skip
 have hcl : (List.map (fun c : Nat => (c : Int)) x.cps.toList).length <= 200 := by rw [List.length_map, Array.length_toList]; exact hxl
 repeat ((fail_if_success (k_here; with_reducible show wpAny _ _ (binaryOp _ (Value.ref _) (Value.ref _)) _ _ _)); (first | (k_unfold; (try dsimp only)) | (dsimp only; walk1) | walk1))
 k_here
 k_dflt (refine' kmk_add_ints (ws := [Value.int 0 _]) (ms := [0]) ?za1 ?za2 ?za3 ?za4 hI3 (.cons _ _ .nil) ?_ ?za5; (case za1 => k_asm); (case za2 => k_asm))
 case za3 => exact News.isList (by k_asm) (by k_mem)
 case za4 => exact News.isList (by k_asm) (by k_mem)
 case za5 =>
  have h3 : sizeLine = 16777216 := rfl
  rw [h3]
  simp only [List.length_cons, List.length_nil]
  omega
 intro l5 us5 h5 F5 N5 l9 hI5
 k_lt l9
 repeat ((fail_if_success (k_here; with_reducible show wpAny _ _ (call (Value.builtin "iter") _) _ _ _)); (first | (k_unfold; (try dsimp only)) | (dsimp only; walk1) | walk1))
 k_here
 k_dflt (refine' q6k ?k1 ?k2 ?k3 ?_; (case k1 => k_asm); (case k2 => k_asm); (case k3 => k_mem))
 intro it6 h6 F6 N6 l6
 k_lt l6
 repeat ((fail_if_success (k_here; with_reducible show wpAny _ _ (exec (PySem.Stmt.While _ _ _ _) _) _ _ _)); (first | (k_unfold; (try dsimp only)) | (dsimp only; walk1) | walk1))
 rename Fr g' L' _ _ => F9
 rename News g' L' _ (_ :: _) => N9
 (refine E_e (qed N9) fun tl z1z => ?_; subst z1z)
 have NP : News g' L' _ ((tl, W.listOf ([] : List Value).toArray 0) :: (it6, liO l5 0) :: (l5, W.listOf us5.toArray 0) :: news) := News.sub N9 (fun p hp => by
  simp only [List.mem_cons] at hp ⊢
  rcases hp with h | h | h | h
  ·exact .inl h
  ·exact .inr (.inl h)
  ·exact .inr (.inr (.inl h))
  ·exact .inr (.inr (.inr (.inr (.inr h)))))
 have hU : IntsAre us5 (q01 zs) := by
  have e : q01 zs = List.map (fun c : Nat => (c : Int)) x.cps.toList ++ [0] := by
   rw [<- hx, List.map_append]; rfl
  rw [e]; exact hI5
 have hA5 : AllLt l5 news := by assumption
 have hA6 : AllLt it6 news := by assumption
 have hA7 : AllLt tl news := by assumption
 have hlt1 : @LT.lt Nat _ l5 it6 := by exact (by assumption)
 have hlt2 : @LT.lt Nat _ it6 tl := by exact (by assumption)
 k_here
 refine While_inv (n₀ := zs.length) (h₀ := g') (L := L') (ReadSt zs tl it6 l5 us5 news) F9 NP ?hJ ?turn (by passes_own)
 case hJ => exact ⟨0, [], 0, rfl, Nat.zero_le _, rfl, .nil, (by first | rfl | ((try dsimp only); repeat (first | rw [if_pos rfl] | rw [if_neg (by decide)]))), (by first | rfl | ((try dsimp only); repeat (first | rw [if_pos rfl] | rw [if_neg (by decide)])))⟩
 case turn =>
  intro j m₂ led₂ h₂ tk₂ F₂ N₂ hJ
  clear F9 N9 NP
  (refine q9e hJ fun i told k z1z hil z2z hTI hm1 hm2 => ?_; (try clear hJ); subst z1z; subst z2z)
  simp only [List.cons_append, List.nil_append] at N₂
  have em : m₂ = fun q => if q = Str.ofString "told" then some (.ref tl) else if q = Str.ofString "stream" then some (.ref it6) else m₂ q := by
   funext q
   by_cases e1 : q = Str.ofString "told"
   ·rw [if_pos e1, e1, hm1]
   rw [if_neg e1]
   by_cases e2 : q = Str.ofString "stream"
   ·rw [if_pos e2, e2, hm2]
   ·rw [if_neg e2]
  rw [em] at F₂
  clear em hm1 hm2
  have htl := q5l hTI
  repeat ((fail_if_success (k_here; with_reducible show wpAny _ _ (call (Value.ref 45) _) _ _ _)); (first | (k_unfold; (try dsimp only)) | (dsimp only; walk1) | walk1))
  by_cases hi : i < zs.length
  ·(refine E_e (⟨_, List.getElem?_eq_getElem hi⟩ : ∃ z, zs[i]? = some z) fun z hzi => ?_)
   have hzr := hz z (List.mem_of_getElem? hzi)
   k_here
   k_dflt (refine' qfx (z := z) (tail := q01 (zs.drop (i + 1))) (rest := (tl, W.listOf told.toArray k) :: news) ?zB ?zF ?zX ?zN ?zR ?zs ?zT rfl ?zne hU hzr (q5k hzi) ?zd ?zu ?_; (case zB => k_asm); (case zF => k_asm); (case zX => k_asm); (case zT => k_asm); (case zd => k_room); (case zu => ktr_units))
   case zN => exact News.sub N₂ (fun p hp => by
    simp only [List.mem_cons, List.not_mem_nil, or_false] at hp ⊢
    rcases hp with h | h
    ·exact .inr (.inl h)
    ·exact .inr (.inr (.inl h)))
   case zR => exact News.sub N₂ (fun p hp => by
    simp only [List.mem_cons] at hp ⊢
    rcases hp with h | h
    ·exact .inl h
    ·exact .inr (.inr (.inr h)))
   case zs =>
    intro p hp q hq
    simp only [List.mem_cons, List.not_mem_nil, or_false] at hq
    rcases List.mem_cons.mp hp with rfl | hp
    ·rcases hq with rfl | rfl
     ·exact Nat.ne_of_gt hlt2
     ·exact Nat.ne_of_gt (Nat.lt_trans hlt1 hlt2)
    ·rcases hq with rfl | rfl
     ·exact q1q hA6 p hp
     ·exact q1q hA5 p hp
   case zne => exact Nat.ne_of_gt hlt1
   intro h7 tk7 t7 F7 N7
   clear N₂ F₂
   dsimp only
   repeat ((fail_if_success (with_reducible show WhileStep _ _ _ _ _ _ _)); (first | (k_unfold; (try dsimp only)) | (dsimp only; walk1) | walk1))
   rename Fr g' _ _ _ => F3
   rename News g' _ _ (_ :: _) => N3
   rw [List.push_toArray, <- q5x hzi] at N3
   refine WhileStep.intro (n' := zs.length - (i + 1)) F3 (news₂ := [(tl, W.listOf (told ++ [Value.int z t7]).toArray (k + 1)), (it6, liO l5 (q01 (zs.take (i + 1))).length), (l5, W.listOf us5.toArray 0)] ++ news) (News.sub N3 (fun p hp => by
    simp only [List.mem_cons, List.cons_append, List.nil_append] at hp ⊢
    rcases hp with h | h | h | h
    ·exact .inr (.inr (.inl h))
    ·exact .inl h
    ·exact .inr (.inl h)
    ·exact .inr (.inr (.inr h)))) (by exact o159 hi) ⟨i + 1, told ++ [Value.int z t7], k + 1, rfl, by exact hi, rfl, ?_, (by first | rfl | ((try dsimp only); repeat (first | rw [if_pos rfl] | rw [if_neg (by decide)]))), (by first | rfl | ((try dsimp only); repeat (first | rw [if_pos rfl] | rw [if_neg (by decide)])))⟩
   rw [List.take_add_one, hzi]
   exact hTI.append (.cons _ _ .nil)
  ·obtain rfl : i = zs.length := by exact o150 hil hi
   repeat ((fail_if_success (k_here; with_reducible show wpAny _ _ (call (Value.builtin "next") _) _ _ _)); (first | (k_unfold; (try dsimp only)) | (dsimp only; walk1) | walk1))
   k_here
   k_dflt (refine' qf6 ?zx1 ?zx2 ?zx3 ?zx4 ?zx5 ?zx6 ?_; (case zx1 => exact rfl); (case zx2 => k_asm); (case zx3 => k_asm); (case zx4 => k_updF); (case zx5 => k_mem))
   case zx6 =>
    rw [List.take_length]
    exact List.getElem?_eq_none (by rw [q5l hU]; exact Nat.le_refl _)
   intro h1 h9 o9 e9 F1 N1 hx9
   (try dsimp only)
   repeat (first | (k_unfold; (try dsimp only)) | (dsimp only; walk1) | walk1)
   rename News h₀ L _ (_ :: _) => NO
   rw [List.take_length] at hTI
   exact ret _ tl told k (by k_asm) rfl rfl (News.sub NO (fun p hp => by
    simp only [List.mem_cons] at hp ⊢
    rcases hp with h | h
    ·exact .inl h
    ·exact .inr (.inr (.inr h)))) (fun p hp => q1q hA7 p hp) hTI
example : True := by
 k_with_none
 k_with "k_room" => (ktr_room)
 k_with "k_inst" => ((refine' q31 (by k_asm) (by k_mem) (by k_mem)))
 k_with "m getMethod ref" => ((k_here; k_dflt (first
 | (refine' q5g q73 (by k_asm) (by k_asm) (by k_asm) (by k_mem) (by k_inst) (by k_is) (by ks_is) (by decide) (by k_is) ?_; intro q' h' F' N' l1; (try k_lt l1); (try dsimp only))
 | (refine' q5g q6p (by k_asm) (by k_asm) (by k_asm) (by k_mem) (by k_inst) (by k_is) (by ks_is) (by decide) (by k_is) ?_; intro q' h' F' N' l1; (try k_lt l1); (try dsimp only))
 | (refine' q5g q5d (by k_asm) (by k_asm) (by k_asm) (by k_mem) (by k_inst) (by k_is) (by ks_is) (by decide) (by k_is) ?_; intro q' h' F' N' l1; (try k_lt l1); (try dsimp only)))))
 k_with "m callWith ref" => ((k_here; k_dflt (first
 | (refine' q2a (by k_asm) (by k_mem) (by exact .inl rfl) ?_; k_whole; try dsimp only [List.nil_append, List.append_nil])
 | (refine' q2a (by k_asm) (by k_mem) (by exact .inr rfl) ?_; k_whole; try dsimp only [List.nil_append, List.append_nil]))))
 k_with "m call ref" => ((k_here; (with_reducible show wpAny _ _ (call (Value.ref _) [] _) _ _ _); k_dflt (first
 | (refine' q6z (by k_asm) (by k_mem) (by k_inst) ?_; k_whole)
 | (refine' q6q (by k_asm) (by k_asm) (by k_asm) (by k_mem) (by k_mem) (by k_mem) (by k_is) (by k_upd) (by omega) ?_; k_whole; intro h' F' N'; (try k_sweep))
 | (refine' q55 (by k_asm) (by k_asm) (by k_mem) (by k_upd) ?_; k_whole; intro h' F' N'; (try k_sweep)))))
 k_with "m setAttr ref" => ((k_here; k_dflt (refine' q6n (by k_asm) (by k_asm) (by k_asm) (by k_inst) (by exact rfl) (by k_is) (by exact qe6 _) (by k_is) (by k_is) (by k_get) (by k_put) (by k_upd) (by exact Nat.le_of_ble_eq_true rfl) ?_; k_whole; intro h' F' N'; (try k_sweep))))
 trivial
theorem qej (P : Params) : ∃ oc od cd sl, (Mine.hd.heap_1 P).lookup 249 = some ⟨oc, od, .cls cd, sl⟩ /\ (sl[4]?).join = some (.builtin "list.__new__") /\ cd.mro = [.ref 249, .type "list", .type "object"] /\ cd.hasDel = false := ⟨_, _, _, _, rfl, rfl, rfl, rfl⟩
theorem qek {w : World} {p : Program} {loose : List Str} {mean : ExcName -> Option Value} {mg mb : Str -> Option Value}
 {dp un : Nat} {gd : Option (List Code)} {cn : Str} {cs : Scope} {a : Addr} {ccd : Value} {cl : List (Str × Addr)} {outer : List Env} {A₀ : Around} {base h₀ : Heap} {L : Addr} {m : Str -> Option Value} {s : Shared}
 {Q E : Value -> Shared -> Prop} {k : Int} {tk0 : Tok} {news : List (Addr × Obj)}
 (B : Below A₀ base outer h₀) (F : Fr h₀ L s.heap m) (X : (Mine.hd.heap_1 w.params).In h₀) (N : News h₀ L s.heap news) (T : Top p loose mean mg mb h₀) (hk : cs.kind = .function)
 (hd : dp + 30 < recursionLimit) (hu : un + 400 < cLine)
 (ret : ∀ h' tk' x d ep hs1 ts tz, Fr h₀ L h' m -> News h₀ L h' ((x, accO [] ep d) :: (d, dictOf [⟨hs1, .str q0o ts, .int k tz⟩] 1) :: news) -> (∀ p ∈ news, p.1 < d) -> @LT.lt Nat _ d x -> Q (.ref x) { s with heap := h', toks := tk' }) :
 wpAny (model Challenge.rw_un0030_01.row.prog w) (ktrTop dp un gd cn cs L a ccd cl outer) (call (.ref 249) [.int k tk0]) Q E s := by
 revert X
 k_fill
 intro X
 (refine qa6 (qej w.params) fun oc od cd sl g1 g2 g3 g4 => ?_)
 obtain ⟨hh, gg, dr, tt, os⟩ := s
 refine wpAny_call ?_
 have F0 := (F.push emptyDict).push (accO [] 0 hh.objs.size)
 have N0 := (N.push F emptyDict).push (F.push _) (accO [] 0 hh.objs.size)
 rw [Heap.size_push] at N0
 refine qfv (fI := 186) (X.keeps F.keep) g1 g2 g3 g4 (by k_is) (by k_is) (by k_is) (by k_is) (by k_is) ?_
 have hlt : ∀ p ∈ news, p.1 < hh.objs.size := fun p hp => Heap.lt_size (N p hp).1
 (refine E_e (⟨_, rfl⟩ : ∃ x, hh.objs.size + 1 = x) fun x9 hx9 => ?_)
 (refine E_e (⟨_, rfl⟩ : ∃ d : Addr, hh.objs.size = d) fun d9 hd9 => ?_)
 rw [hx9] at N0 ⊢
 rw [hd9] at F0 N0 hlt ⊢
 have hdx : @LT.lt Nat _ d9 x9 := by rw [<- hx9, <- hd9]; exact Nat.lt_succ_self _
 have NO : News h₀ L _ [(x9, accO [] 0 d9), (d9, dictOf [] 0)] := fun p hp => N0 p (by
  rcases List.mem_cons.mp hp with e | hp
  ·rw [e]; exact .head _
  ·rw [List.mem_singleton.mp hp]; exact .tail _ (.head _))
 have NR : News h₀ L _ news := fun p hp => N0 p (.tail _ (.tail _ hp))
 have hs : ∀ p ∈ news, ∀ q ∈ ([(x9, accO [] 0 d9), (d9, dictOf [] 0)] : List (Addr × Obj)), p.1 ≠ q.1 := by
  intro p hp q hq
  have h1 := hlt p hp
  rcases List.mem_cons.mp hq with e | hq
  ·rw [e]; exact Nat.ne_of_lt (Nat.lt_trans h1 hdx)
  ·rw [List.mem_singleton.mp hq]; exact Nat.ne_of_lt h1
 k_dflt ((refine' q1s (by k_asm) (by k_asm) (by k_asm) NO NR hs (by k_asm) (by exact rfl) (by exact rfl) (by first | exact rfl | assumption) (by k_is) (by k_is) (by k_room) (by first | exact BindsTo.of_eq rfl | exact binds_K (by k_in) rfl (by k_is) rfl rfl rfl) (by exact locs rfl) ?_ (by decide) (by exact rfl) (by exact rfl) (by exact rfl); intro g' L' h' FG' F' N' B' X' T' l1 hr1; (try k_lt l1); (try dsimp only); (try k_lift B')))
 iterate 7 (first | (k_unfold; (try dsimp only)) | (dsimp only; walk1) | walk1)
 refine ks_wpAt_Expr_any ?_
 ks_step "eval Call"
 refine ks_wpAt_MethodCall ?_
 repeat (first | (k_unfold; (try dsimp only)) | (dsimp only; walk1) | walk1)
 all_goals (try k_data)
 rename News h₀ L _ news => NR
 rename News h₀ L _ (_ :: _) => NO
 exact ret _ _ _ _ _ _ _ _ (by k_asm) (q0n (NO _ (.tail _ (.tail _ (.head _)))) (q0n (NO _ (.tail _ (.tail _ (.tail _ (.head _))))) NR)) hlt hdx
example : True := by
 k_with_none
 k_with "omega" => (first | assumption | exact Nat.le_refl _ | exact Nat.ne_of_lt (by assumption) | exact Nat.ne_of_gt (by assumption) | exact Nat.le_of_lt (by assumption) | lia)
 k_with "k_room" => (ktr_room)
 k_with "m call ref" => ((k_here; (with_reducible show wpAny _ _ (call (Value.ref 249) [Value.int _ _]) _ _ _); k_dflt (refine' qek (by k_asm) (by k_asm) (by k_asm) (by k_asm) (by k_asm) (by exact rfl) (by k_room) (by first | ktr_units | (ktr_unf; (have hcL9 := cLine_is); (try simp only [units_under_make, units_in1, units_deeper, Around.mark_units, units_caller]); (try dsimp only [ktrTop]); omega)) ?_); intro h' tk' xa da ep' hs' ts' tz' F' N' l7 l8; (try k_lt l7); (try dsimp only)))
 trivial
theorem qfm {w : World} {p : Program} {loose : List Str} {mean : ExcName -> Option Value} {mg mb : Str -> Option Value}
 {dp un : Nat} {gd : Option (List Code)} {cn : Str} {cs : Scope} {a : Addr} {ccd : Value} {cl : List (Str × Addr)} {outer : List Env} {A₀ : Around} {base h₀ : Heap} {L : Addr} {m : Str -> Option Value} {s : Shared}
 {Q E : Value -> Shared -> Prop} {hd0 wd0 : Int} {sp0 : Str} {u1 u2 u3 u4 : Tok} {news : List (Addr × Obj)} {o218 : Obj}
 (B : Below A₀ base outer h₀) (F : Fr h₀ L s.heap m) (X : (Mine.hd.heap_1 w.params).In h₀) (N : News h₀ L s.heap news) (T : Top p loose mean mg mb h₀) (hk : cs.kind = .function) (hm : ((218 : Addr), o218) ∈ news)
 (hd : dp + 60 < recursionLimit) (hu : un + 800 < cLine)
 (ret : ∀ h' tk' fo fd ll a1 dx (K : FK) ep nl hs1 ts tz, Fr h₀ L h' m -> News h₀ L h' ([(fo, fmtO fd), (fd, fmtD K wd0 sp0 ll a1), (a1, accO [] ep dx), (dx, dictOf [⟨hs1, .str q0o ts, .int hd0 tz⟩] 1), (ll, W.listOf [].toArray nl)] ++ news) -> (∀ p ∈ news, p.1 < fd) -> (@LT.lt Nat _ 218 fd /\ @LT.lt Nat _ fd fo /\ @LT.lt Nat _ fo ll /\ @LT.lt Nat _ ll dx /\ @LT.lt Nat _ dx a1) -> Q (.ref fo) { s with heap := h', toks := tk' }) :
 wpAny (model Challenge.rw_un0030_01.row.prog w) (ktrTop dp un gd cn cs L a ccd cl outer) (call (.ref 165) [.int hd0 u1, .int wd0 u2, .str (Str.ofString " ") u3, .str sp0 u4]) Q E s := by
 revert X
 k_fill
 intro X
 refine call_cls F X N (by k_is) (by k_is) (by k_is) ?_
 intro x9 d9 h8 F0 N0 hlt hdx
 have NO : News h₀ L _ [(x9, instObj 165 d9), (d9, dictOf [] 0)] := fun p hp => N0 p (by
  rcases List.mem_cons.mp hp with e | hp
  ·rw [e]; exact .head _
  ·rw [List.mem_singleton.mp hp]; exact .tail _ (.head _))
 have NR : News h₀ L _ news := fun p hp => N0 p (.tail _ (.tail _ hp))
 have hs : ∀ p ∈ news, ∀ q ∈ ([(x9, instObj 165 d9), (d9, dictOf [] 0)] : List (Addr × Obj)), p.1 ≠ q.1 := by
  intro p hp q hq
  have h1 := hlt p hp
  rcases List.mem_cons.mp hq with e | hq
  ·rw [e]; exact Nat.ne_of_lt (Nat.lt_trans h1 hdx)
  ·rw [List.mem_singleton.mp hq]; exact Nat.ne_of_lt h1
 have hdx : @LT.lt Nat _ d9 x9 := hdx
 have h218 : @LT.lt Nat _ 218 d9 := hlt _ hm
 k_dflt ((refine' code_defR (by k_asm) (by k_asm) (by k_asm) NO NR hs (by k_asm) (by exact rfl) (by exact rfl) (by first | exact rfl | assumption) (by k_is) (by k_is) (by k_room) (by first | exact BindsTo.of_eq rfl | exact binds_K (by k_in) rfl (by k_is) rfl rfl rfl | fail "no rule for these arguments") (by exact locs rfl) ?_ (by exact rfl) (by exact rfl) (by exact rfl) (by decide); k_whole; intro g' L' h' FG' F' N' B' X' T' l1 hr1; (try k_lt l1); (try (have l2 := allLt_up l1; have l3 := allLt_up l2; have l4 := allLt_up l3)); (try dsimp only); (try k_lift B'); (try k_fold)))
 repeat (first | (k_unfold; (try dsimp only)) | (dsimp only; walk1) | walk1)
 all_goals (try k_data)
 rename News h₀ L _ news => NR
 rename News h₀ L _ (_ :: _) => NO
 rename ∀ p ∈ news, p.1 < d9 => hlt
 have hN := (q0n (NO _ (.tail _ (.tail _ (.tail _ (.head _))))) (q0n (NO _ (.tail _ (.tail _ (.tail _ (.tail _ (.head _)))))) (q0n (NO _ (.head _)) (q0n (NO _ (.tail _ (.head _))) (q0n (NO _ (.tail _ (.tail _ (.head _)))) NR)))))
 exact ret _ _ _ _ _ _ _ ⟨_, _, _, _, _, _, _, _, _, _, _, _, _, _, _, _⟩ _ _ _ _ _ (by k_asm) hN hlt ⟨h218, hdx, by show @LT.lt Nat _ _ _; omega, by show @LT.lt Nat _ _ _; omega, by show @LT.lt Nat _ _ _; omega⟩
end
namespace H
section
open PySem PySem.W PyProof.Rows PySem.Calls
example : True := by
 k_with_none
 k_with "w boot" => (first | rfl | boot_by_name | decide)
 k_with "w ev" => (first
 | ((with_reducible show Ev _ _ _ (Expr.Constant (Const.int _) _ _) _); exact Ev.int)
 | ((with_reducible show Ev _ _ _ (Expr.Name _ _) _); first
  | exact Ev.name (by assumption) (by rfl) (by rfl) (by first | rfl | assumption)
  | exact Ev.free (by assumption) (by rfl) (by rfl) (by rfl) (by rfl) (by assumption) (by rfl)
  | exact Ev.cellv (by assumption) (by rfl) (by rfl) (by rfl) (by assumption) (by rfl)
  | exact Ev.builtin (by assumption) (by rfl) (by rfl) (by k_is) (by wtm_at "boot") (by decide) (by rfl)
  | exact Ev.globalE (by assumption) (by rfl) (by rfl) (by k_is) (by rfl))
 | ((with_reducible show Ev _ _ _ (Expr.BinOp _ Operator.Add _ _) _); exact Ev.add (by wtm_at "ev") (by wtm_at "ev"))
 | ((with_reducible show Ev _ _ _ (Expr.BinOp _ Operator.Sub _ _) _); exact Ev.sub (by wtm_at "ev") (by wtm_at "ev"))
 | ((with_reducible show Ev _ _ _ (Expr.BinOp _ Operator.Mod _ _) _); exact Ev.mod (by wtm_at "ev") (by wtm_at "ev") (by decide))
 | ((with_reducible show Ev _ _ _ (Expr.BinOp _ Operator.FloorDiv _ _) _); exact Ev.fdiv (by wtm_at "ev") (by wtm_at "ev") (by decide) (by exact PyProof.noPylong_of_log2 (by decide +kernel)))
 | ((with_reducible show Ev _ _ _ (Expr.BinOp _ Operator.RShift _ _) _); exact Ev.shr (by wtm_at "ev") (by wtm_at "ev") (by first | decide | omega))
 | ((with_reducible show Ev _ _ _ (Expr.BinOp _ Operator.LShift _ _) _); exact Ev.shl (by wtm_at "ev") (by wtm_at "ev") (by first | decide | omega) (by wtm_at "bits"))
 | ((with_reducible show Ev _ _ _ (Expr.BinOp _ Operator.BitXor _ _) _); exact Ev.xor (by wtm_at "ev") (by wtm_at "ev"))
 | ((with_reducible show Ev _ _ _ (Expr.BinOp _ Operator.Mult _ _) _); exact Ev.mul (by wtm_at "ev") (by wtm_at "ev") (by wtm_at "mul"))
 | ((with_reducible show Ev _ _ _ (Expr.UnaryOp UnaryOp.USub _ _) _); exact Ev.neg (by wtm_at "ev"))
 | ((with_reducible show Ev _ _ _ (Expr.Compare _ [CmpOp.Lt] _ _) _); exact Ev.lt (by wtm_at "ev") (by wtm_at "ev") (by rfl))
 | ((with_reducible show Ev _ _ _ (Expr.Subscript _ _ _) _); exact Ev.item (by wtm_at "ev") (by wtm_at "ev") (by wtm_at "at") (by omega) (by omega) (by assumption) (by intro u; rfl))
 | ((with_reducible show Ev _ _ _ (Expr.Call _ _ _ _) _); exact Ev.len (by wtm_at "ev") (by wtm_at "ev") (by wtm_at "at") (by wtm_at "sz") (by rfl) (by rfl)))
 k_with "w tb" => (first
 | ((with_reducible show Tb _ _ _ (Expr.Compare _ [CmpOp.Lt] _ _) _); exact Tb.lt (by wtm_at "ev") (by wtm_at "ev") (by rfl))
 | ((with_reducible show Tb _ _ _ (Expr.Compare _ [CmpOp.LtE] _ _) _); exact Tb.le (by wtm_at "ev") (by wtm_at "ev") (by rfl))
 | ((with_reducible show Tb _ _ _ (Expr.Compare _ [CmpOp.Eq] _ _) _); exact Tb.eq (by wtm_at "ev") (by wtm_at "ev") (by rfl))
 | ((with_reducible show Tb _ _ _ (Expr.Compare _ [CmpOp.Gt] _ _) _); exact Tb.gt (by wtm_at "ev") (by wtm_at "ev") (by rfl))
 | ((with_reducible show Tb _ _ _ (Expr.Compare _ [CmpOp.In] _ _) _); exact Tb.inn (by wtm_at "ev") (by wtm_at "eva") (by rfl) (by decide) (by rfl))
 | ((with_reducible show Tb _ _ _ (Expr.UnaryOp UnaryOp.Not _ _) _); exact Tb.not (by wtm_at "tb"))
 | ((with_reducible show Tb _ _ _ (Expr.BoolOp BoolOp.And _ _) _); exact Tb.and (by wtm_at "tba"))
 | ((with_reducible show Tb _ _ _ (Expr.Name _ _) _); exact Tb.bool (by wtm_at "ev") (by rfl)))
 k_with "w tba" => (first
 | ((with_reducible show TbA _ _ _ (_ :: _) _); exact TbA.cons (by wtm_at "tb") (by wtm_at "tba"))
 | ((with_reducible show TbA _ _ _ [] _); exact TbA.nil))
 k_with "w eva" => (first
 | ((with_reducible show EvA _ _ _ [] _); exact EvA.nil)
 | ((with_reducible show EvA _ _ _ (_ :: _) _); exact EvA.cons (by rfl) (by wtm_at "ev") (by wtm_at "eva")))
 k_with "w at" => (first | with_reducible assumption | with_reducible exact q3e | with_reducible exact q06 (by wtm_at "at") | with_reducible exact q0f (by wtm_at "at"))
 k_with "w sz" => ((simp only [List.length_map, List.length_replicate]; omega))
 k_with "w bits" => (exact kbm_shl (m := 64) (intBits_le_64 (by omega) (by omega)) (by omega) (by decide))
 k_with "w mul" => (first | exact IntMulOk.of_left (intBits_le_64 (by omega) (by omega)) | exact IntMulOk.of_right (intBits_le_64 (by omega) (by omega)))
 trivial
theorem q7v (ns folds : List Int) : ∀ i, (q0k ns folds i).rows.length <= i /\ (q0k ns folds i).row.length <= i
 | 0 => ⟨Nat.le_refl 0, Nat.le_refl 0⟩
 | i + 1 => by
  (refine E_a (q7v ns folds i) fun h1 h2 => ?_)
  show (q3u folds i (ns.getD i 0) (q0k ns folds i)).rows.length <= _ /\ (q3u folds i (ns.getD i 0) (q0k ns folds i)).row.length <= _
  unfold q3u
  by_cases h : (i : Int) ∈ folds
  ·rw [if_pos h]
   exact ⟨by rw [List.length_append]; exact Nat.add_le_add_right h1 1, Nat.le_add_left 1 i⟩
  ·rw [if_neg h]
   exact ⟨Nat.le_succ_of_le h1, by rw [List.length_append]; exact Nat.add_le_add_right h2 1⟩
theorem qdt {ns folds : List Int} {i : Nat} {x : Int} (hx : ns[i]? = some x) (h : (i : Int) ∈ folds) : q0k ns folds (i + 1) = ⟨(q0k ns folds i).rows ++ [(q0k ns folds i).row ++ [64 * (x / 64)]], [x % 64]⟩ := by
 show q3u folds i (ns.getD i 0) (q0k ns folds i) = _
 unfold q3u
 rw [if_pos h, List.getD_eq_getElem?_getD, hx]; rfl
theorem qb0 {ns folds : List Int} {i : Nat} {x : Int} (hx : ns[i]? = some x) (h : ¬ (i : Int) ∈ folds) : q0k ns folds (i + 1) = ⟨(q0k ns folds i).rows, (q0k ns folds i).row ++ [x]⟩ := by
 show q3u folds i (ns.getD i 0) (q0k ns folds i) = _
 unfold q3u
 rw [if_neg h, List.getD_eq_getElem?_getD, hx]; rfl
noncomputable def DueI (ns folds : List Int) (rl nl fl : Addr) (led : Led) (i : Nat) (m1 : Fm) (l1 : Led) : Prop :=
 ∃ its ex wl T1 T2, l1 = (wl, lsI (q0k ns folds i).row) :: (rl, lsO its) :: (T1 ++ (T2 ++ (ex ++ led))) /\ TabL 61 q2d 45 4 T1 /\ TabL 68 qd2 60 4 T2 /\ All2 (RowE ex) its (q0k ns folds i).rows /\
  m1 (Str.ofString "rows") = some (.ref rl) /\ m1 (Str.ofString "row") = some (.ref wl) /\ m1 (Str.ofString "numbers") = some (.ref nl) /\ m1 (Str.ofString "folds") = some (.ref fl)
theorem dueH {c : Cx} {m : Fm} {led T1 T2 : Led} {jn jf : Nat} {nl fl : Addr} {ns folds : List Int} (ok : c.Ok) (hT1 : TabL 61 q2d 45 4 T1) (hT2 : TabL 68 qd2 60 4 T2) (hnl : led[jn]? = some (nl, lsI ns)) (hfl : led[jf]? = some (fl, lsI folds))
  (hn : ns.length <= 63) (hx : ∀ x ∈ ns, 0 <= x /\ x < 262144) (hp : ∀ i : Nat, (i : Int) ∈ folds -> 0 < ns.getD i 0) (hd : c.dp + 30 < recursionLimit) :
  Cl c m (T1 ++ (T2 ++ led)) (.ref 284) [.ref nl, .ref fl] (fun v l => ∃ rl its ex T1' T2', v = .ref rl /\ TabL 61 q2d 45 4 T1' /\ TabL 68 qd2 60 4 T2' /\ l = (rl, lsO its) :: (T1' ++ (T2' ++ (ex ++ led))) /\ All2 (RowE ex) its (q60 ns folds) /\ its.length <= 64) := by
 refine' Cl.dfn [Str.ofString "numbers", Str.ofString "folds"] ok ?ho ?hcd ?hroom ?hbind ?hloc ?z1 ?z2 ?z3 ?z4 ?h
 case ho => k_is
 case hcd => k_is
 case hroom => exact room (j := 0) hd (by decide)
 case hbind =>
  intro s vs' hl
  (refine E_ee (ex2 hl) fun v1 v2 z1z => ?_; subst z1z)
  exact BindsTo.of_eq rfl
 case hloc => rfl
 case z1 => rfl
 case z2 => rfl
 case z3 => rfl
 case z4 => decide
 case h =>
 intro L' g okc hlt
 refine Bd.assignG okc (EvG.list EvA.nil (Nat.zero_le _)) (fun v l hv => ?_) rfl rfl
 (refine E_ea hv fun rl z1z z2z => ?_; (try clear hv); subst z1z; subst z2z)
 refine Bd.assignG okc (EvG.list EvA.nil (Nat.zero_le _)) (fun v l hv => ?_) rfl rfl
 (refine E_ea hv fun wl z1z z2z => ?_; (try clear hv); subst z1z; subst z2z)
 refine' Bd.rng (n := ns.length) (DueI ns folds rl nl fl led) ?r1 ?r2 ?r3 ?r4 ?r5 ?r6 ?r7 ?r8 ?r9 ?ra ?rb
 case r1 => rfl
 case r2 => rfl
 case r3 => wtm_at "ev"
 case r4 => (rw [show (ns.length : Int) = ((ns.map vI).length : Nat) by rw [List.length_map]]; wtm_at "ev")
 case r5 => exact Nat.lt_of_le_of_lt hn (by decide)
 case r6 => exact ⟨[], [], wl, T1, T2, rfl, hT1, hT2, trivial, rfl, rfl, rfl, rfl⟩
 case r9 => rfl
 case ra => rfl
 case rb => intro v; rfl
 case r7 =>
  rintro i m1 _ It io hi - ⟨its, ex, wl, T1, T2, rfl, hT1, hT2, hA, g1, g2, g3, g4⟩
  (refine E_e (⟨_, List.getElem?_eq_getElem hi⟩ : ∃ x, ns[i]? = some x) fun x hxi => ?_)
  have hxx := hx x (List.mem_of_getElem? hxi)
  have hxv : (ns.map vI)[(i : Int).toNat]? = some (vI x) := by rw [List.getElem?_map, show (i : Int).toNat = i from rfl, hxi]; rfl
  (refine E_a (q7v ns folds i) fun hl1 hl2 => ?_)
  have hi63 : i + 1 <= 1000 := Nat.le_trans (Nat.le_trans hi hn) (by decide)
  refine Bd.ite (Tb.inl (by wtm_at "ev") (by wtm_at "ev") (by wtm_at "at") rfl) (fun hb => ?_) (fun hb => ?_)
  ·have hin := of_decide_eq_true hb
   have hx0 : 0 < x := by have h := hp i hin; rw [List.getD_eq_getElem?_getD, hxi] at h; exact h
   have hcl := fun m1 l1 => idmH (c := c.under _ _ L' 284 _ g []) (m := m1) (led := l1) okc hT1 hT2 hx0 hxx.2 (room (j := 1 + 25) hd (by decide))
   refine Bd.assignT okc (EvG.call okc (by wtm_at "ev") (fun v => q04) (by k_is) (by wtm_at "eva") (Cl.perm (q57 _ _ _ T1 T2 (ex ++ led)) (hcl _ _)) rfl rfl rfl) rfl rfl (fun v l hv => ?_) rfl rfl
   (refine q09 hv fun t T1' T2' z1z hT1' hT2' z2z => ?_; (try clear hv); subst z1z; subst z2z)
   refine ⟨t, 0, _, _, rfl, rfl, Bd.drop (Bd.perm (q57 _ _ _ T1' T2' (ex ++ led)).symm ?_)⟩
   refine Bd.appG (by wtm_at "ev") (EvG.addL (ns := (q0k ns folds i).row) (ms := [64 * (x / 64)]) (by wtm_at "ev") (by wtm_at "at") (by wtm_at "eva") (Nat.le_trans (Nat.add_le_add_right hl2 1) hi63)) (i := 2) rfl (by rw [hA.len]; exact Nat.le_trans (Nat.le_succ_of_le hl1) hi63) (fun t2 => ?_) rfl rfl rfl
   refine Bd.assignG okc (EvG.list (vs := [vI (x % 64)]) (by wtm_at "eva") (by show 1 <= _; decide)) (fun v l hv => Bd.fall (Bd.nil fun s S => ?_)) rfl rfl
   (refine E_ea hv fun w2 z1z z2z => ?_; (try clear hv); subst z1z; subst z2z)
   refine ⟨.inl rfl, _, (w2, lsI (q0k ns folds (i + 1)).row) :: (rl, lsO (its ++ [.ref t2])) :: (T1' ++ (T2' ++ ((t2, lsI ((q0k ns folds i).row ++ [64 * (x / 64)])) :: ex ++ led))), ?_, S.pick ((w2, lsI [x % 64]) :: (t2, lsI ((q0k ns folds i).row ++ [64 * (x / 64)])) :: (It, io) :: (rl, lsO (its ++ [.ref t2])) :: (T1' ++ (T2' ++ (ex ++ led)))) ?_ ?_⟩
   ·refine ⟨its ++ [.ref t2], (t2, lsI ((q0k ns folds i).row ++ [64 * (x / 64)])) :: ex, w2, T1', T2', rfl, hT1', hT2', ?_, g1, rfl, g3, g4⟩
    rw [qdt hxi hin]; exact All2.snoc ⟨t2, rfl, .head _⟩ (hA.mono (RowE.mono fun p hp => .tail _ hp))
   ·exact .cons_cons _ (.cons_cons _ (.cons_cons _ (.cons _ (.refl _))))
   ·rw [qdt hxi hin]
    refine ((List.perm_append_comm_assoc [_, _] [_] _)).trans (.cons _ (.cons _ ?_))
    exact (List.Perm.swap _ _ _).trans (.cons _ (q1v [_] T1' T2' _))
  ·have hin := of_decide_eq_false hb
   refine Bd.app (i := 1) (vs := (q0k ns folds i).row.map vI) (by wtm_at "ev") (v := vI x) (by wtm_at "ev") rfl (by rw [List.length_map]; exact Nat.le_trans (Nat.le_succ_of_le hl2) hi63) (Bd.fall (Bd.nil fun s S => ?_)) rfl rfl rfl
   refine ⟨.inl rfl, updM m1 (Str.ofString "which") (.int i 0), (wl, lsI (q0k ns folds (i + 1)).row) :: (rl, lsO its) :: (T1 ++ (T2 ++ (ex ++ led))), ?_, ?_⟩
   rotate_left
   ·rw [qb0 hxi hin, q3y]; exact S
   ·refine ⟨its, ex, wl, T1, T2, rfl, hT1, hT2, ?_, g1, g2, g3, g4⟩
    rw [qb0 hxi hin]; exact hA
 case r8 =>
  (intro m1; intro _; intro z1y; refine q2g z1y fun its ex wl T1 T2 z2z hT1 hT2 hA g1 g2 g3 g4 => ?_; (try clear z1y); subst z2z)
  (refine E_a (q7v ns folds ns.length) fun hl1 hl2 => ?_)
  have hi63 : ns.length + 1 <= 1000 := Nat.le_trans (Nat.add_le_add_right hn 1) (by decide)
  refine Bd.appG (by wtm_at "ev") (EvG.addL (ns := (q0k ns folds ns.length).row) (ms := [0]) (by wtm_at "ev") (by wtm_at "at") (by wtm_at "eva") (Nat.le_trans (Nat.add_le_add_right hl2 1) hi63)) (i := 1) rfl (by rw [hA.len]; exact Nat.le_trans (Nat.le_succ_of_le hl1) hi63) (fun t2 => ?_) rfl rfl rfl
  refine Bd.ret (Ev.g (by wtm_at "ev")) ?_
  (intro v; intro l; intro s; intro z1y; refine E_a z1y fun hv z2z => ?_; (try clear z1y); subst z2z; intro S)
  refine ⟨_, _, S.pick ((t2, lsI ((q0k ns folds ns.length).row ++ [0])) :: (rl, lsO (its ++ [.ref t2])) :: (T1 ++ (T2 ++ (ex ++ led)))) (.cons_cons _ (.cons _ (.refl _))) ?_, rl, its ++ [.ref t2], (t2, lsI ((q0k ns folds ns.length).row ++ [0])) :: ex, T1, T2, hv, hT1, hT2, rfl, All2.snoc ⟨t2, rfl, .head _⟩ (hA.mono (RowE.mono fun p hp => .tail _ hp)), ?_⟩
  ·refine (List.Perm.swap _ _ _).trans (.cons _ ?_)
   exact q1v [_] T1 T2 _
  ·rw [List.length_append, hA.len]; exact Nat.add_le_add_right (Nat.le_trans hl1 hn) 1
example : True := by
 k_with_none
 k_with "omega" => (first | assumption | exact Nat.le_refl _ | exact Nat.ne_of_lt (by assumption) | exact Nat.ne_of_gt (by assumption) | exact Nat.le_of_lt (by assumption) | lia)
 k_with "w boot" => (first | rfl | boot_by_name | decide)
 k_with "w ev" => (first
 | ((with_reducible show Ev _ _ _ (Expr.Constant (Const.int _) _ _) _); exact Ev.int)
 | ((with_reducible show Ev _ _ _ (Expr.Name _ _) _); first
  | exact Ev.name (by assumption) (by rfl) (by rfl) (by first | rfl | assumption)
  | exact Ev.free (by assumption) (by rfl) (by rfl) (by rfl) (by rfl) (by assumption) (by rfl)
  | exact Ev.cellv (by assumption) (by rfl) (by rfl) (by rfl) (by assumption) (by rfl)
  | exact Ev.builtin (by assumption) (by rfl) (by rfl) (by k_is) (by wtm_at "boot") (by decide) (by rfl)
  | exact Ev.globalE (by assumption) (by rfl) (by rfl) (by k_is) (by rfl))
 | ((with_reducible show Ev _ _ _ (Expr.BinOp _ Operator.Add _ _) _); exact Ev.add (by wtm_at "ev") (by wtm_at "ev"))
 | ((with_reducible show Ev _ _ _ (Expr.BinOp _ Operator.Sub _ _) _); exact Ev.sub (by wtm_at "ev") (by wtm_at "ev"))
 | ((with_reducible show Ev _ _ _ (Expr.BinOp _ Operator.Mod _ _) _); exact Ev.mod (by wtm_at "ev") (by wtm_at "ev") (by decide))
 | ((with_reducible show Ev _ _ _ (Expr.BinOp _ Operator.FloorDiv _ _) _); exact Ev.fdiv (by wtm_at "ev") (by wtm_at "ev") (by decide) (by exact PyProof.noPylong_of_log2 (by decide +kernel)))
 | ((with_reducible show Ev _ _ _ (Expr.BinOp _ Operator.RShift _ _) _); exact Ev.shr (by wtm_at "ev") (by wtm_at "ev") (by first | decide | omega))
 | ((with_reducible show Ev _ _ _ (Expr.BinOp _ Operator.LShift _ _) _); exact Ev.shl (by wtm_at "ev") (by wtm_at "ev") (by first | decide | omega) (by wtm_at "bits"))
 | ((with_reducible show Ev _ _ _ (Expr.BinOp _ Operator.BitXor _ _) _); exact Ev.xor (by wtm_at "ev") (by wtm_at "ev"))
 | ((with_reducible show Ev _ _ _ (Expr.BinOp _ Operator.Mult _ _) _); exact Ev.mul (by wtm_at "ev") (by wtm_at "ev") (by wtm_at "mul"))
 | ((with_reducible show Ev _ _ _ (Expr.UnaryOp UnaryOp.USub _ _) _); exact Ev.neg (by wtm_at "ev"))
 | ((with_reducible show Ev _ _ _ (Expr.Compare _ [CmpOp.Lt] _ _) _); exact Ev.lt (by wtm_at "ev") (by wtm_at "ev") (by rfl))
 | ((with_reducible show Ev _ _ _ (Expr.Subscript _ _ _) _); exact Ev.item (by wtm_at "ev") (by wtm_at "ev") (by wtm_at "at") (by omega) (by omega) (by assumption) (by intro u; rfl))
 | ((with_reducible show Ev _ _ _ (Expr.Call _ _ _ _) _); exact Ev.len (by wtm_at "ev") (by wtm_at "ev") (by wtm_at "at") (by wtm_at "sz") (by rfl) (by rfl)))
 k_with "w tb" => (first
 | ((with_reducible show Tb _ _ _ (Expr.Compare _ [CmpOp.Lt] _ _) _); exact Tb.lt (by wtm_at "ev") (by wtm_at "ev") (by rfl))
 | ((with_reducible show Tb _ _ _ (Expr.Compare _ [CmpOp.LtE] _ _) _); exact Tb.le (by wtm_at "ev") (by wtm_at "ev") (by rfl))
 | ((with_reducible show Tb _ _ _ (Expr.Compare _ [CmpOp.Eq] _ _) _); exact Tb.eq (by wtm_at "ev") (by wtm_at "ev") (by rfl))
 | ((with_reducible show Tb _ _ _ (Expr.Compare _ [CmpOp.Gt] _ _) _); exact Tb.gt (by wtm_at "ev") (by wtm_at "ev") (by rfl))
 | ((with_reducible show Tb _ _ _ (Expr.Compare _ [CmpOp.In] _ _) _); exact Tb.inn (by wtm_at "ev") (by wtm_at "eva") (by rfl) (by decide) (by rfl))
 | ((with_reducible show Tb _ _ _ (Expr.UnaryOp UnaryOp.Not _ _) _); exact Tb.not (by wtm_at "tb"))
 | ((with_reducible show Tb _ _ _ (Expr.BoolOp BoolOp.And _ _) _); exact Tb.and (by wtm_at "tba"))
 | ((with_reducible show Tb _ _ _ (Expr.Name _ _) _); exact Tb.bool (by wtm_at "ev") (by rfl)))
 k_with "w tba" => (first
 | ((with_reducible show TbA _ _ _ (_ :: _) _); exact TbA.cons (by wtm_at "tb") (by wtm_at "tba"))
 | ((with_reducible show TbA _ _ _ [] _); exact TbA.nil))
 k_with "w eva" => (first
 | ((with_reducible show EvA _ _ _ [] _); exact EvA.nil)
 | ((with_reducible show EvA _ _ _ (_ :: _) _); exact EvA.cons (by rfl) (by wtm_at "ev") (by wtm_at "eva")))
 k_with "w at" => (first | with_reducible assumption | with_reducible exact q3e | with_reducible exact q06 (by wtm_at "at") | with_reducible exact q0f (by wtm_at "at"))
 k_with "w sz" => ((simp only [List.length_map, List.length_replicate]; omega))
 k_with "w bits" => (exact kbm_shl (m := 64) (intBits_le_64 (by omega) (by omega)) (by omega) (by decide))
 k_with "w mul" => (first | exact IntMulOk.of_left (intBits_le_64 (by omega) (by omega)) | exact IntMulOk.of_right (intBits_le_64 (by omega) (by omega)))
 trivial
section
section
variable {c : Cx} {m : Fm} {l ex : Led} {a b e : Expr} {pos : Pos} {rest : List Stmt} {P : Flow -> Shared -> Prop} {x dx : Addr} {its : List Value} {sz : Int} {y z : Str}
theorem Bd.brk (h : ∀ s, SS c m l s -> P .brk s) : Bd c m l (.Break pos :: rest) P := fun Q E s hE S k => wpAny_execs_cons (wpAny_Break (k _ _ (h _ S)))
theorem Bd.cont (h : ∀ s, SS c m l s -> P .cont s) : Bd c m l (.Continue pos :: rest) P := fun Q E s hE S k => wpAny_execs_cons (wpAny_Continue (k _ _ (h _ S)))
theorem Ev.sitem {k : Int} (ha : Ev c m l a (.str y 0)) (hb : Ev c m l b (vI k)) (h0 : -(y.length : Int) <= k) (h1 : k < (y.length : Int)) (hn : y.length <= 1000)
  (hs : ∀ t u, subscripted b false (.str y t) (.int k u) = operate [.str y t, .int k u] (getItem (.str y t) (.int k u))) (ht : ∀ t r, letTemporaryGo a (.str y t) r = pure ()) : Ev c m l (.Subscript a b pos) (.str (Txt.item y k) 0) := by
 intro Q E s S h
 refine Subscript_ (ha _ _ s S fun va s1 ea S1 => hb _ _ s1 S1 fun vb s2 eb S2 => ?_)
 (refine E_e (q0i ea) fun t z1z => ?_; subst z1z)
 (refine E_e (q0a eb) fun u z1z => ?_; subst z1z)
 exact KXi.item rfl h0 h1 (Nat.le_trans hn (by decide)) (fun _ => h _ _ rfl S2) (hs t u) (ht t)
theorem Tb.eqS (ha : Ev c m l a (.str y 0)) (hb : Ev c m l b (.str z 0)) (hm : behindInMarks .Eq b = false) : Tb c m l (.Compare a [.Eq] [b] pos) (y == z) := by
 intro Q E s S h
 refine wpAny_isTrue_Compare1 (ha _ _ s S fun va s1 ea S1 => hb _ _ s1 S1 fun vb s2 eb S2 => ?_) hm
 (refine E_e (q0i ea) fun t z1z => ?_; subst z1z)
 (refine E_e (q0i eb) fun u z1z => ?_; subst z1z)
 exact PyProof.Rows.eq_str (wpAny_truthy_bool (h _ S2))
theorem Tb.str (ha : Ev c m l a (.str y 0)) (hn : y.length <= 1000) (hw : PySem.isTrue a c.env (eval a c.env) = (do let v <- eval a c.env; standAt a.pos; holding [v] (truthy v))) : Tb c m l a (decide (0 < y.length)) := by
 intro Q E s S k
 refine isTrue_plain (ha _ _ s S fun v s1 e S1 => ?_) hw
 (refine E_e (q0i e) fun t z1z => ?_; subst z1z)
 refine P.truthy_str (by exact o41 hn) ?_
 rw [show ((y.length : Int) != 0) = decide (0 < y.length) by rw [Bool.eq_iff_iff, bne_iff_ne, decide_eq_true_eq]; exact o75]
 exact k _ S1
theorem Tb.isspace {pl : Sem Bool} {ap : Pos} (ha : Ev c m l a (.str y 0)) (hc : eval (.Call (.Attribute a "isspace" ap) [] [] pos) c.env = (do let ov <- eval a c.env; standAt ap.atName; let (f, first) <- holding [ov] (getMethod ov "isspace" pl); callWith pos f first (backTo pos (starEach [] c.env)) []))
  (hw : PySem.isTrue (.Call (.Attribute a "isspace" ap) [] [] pos) c.env (eval (.Call (.Attribute a "isspace" ap) [] [] pos) c.env) = (do let v <- eval (.Call (.Attribute a "isspace" ap) [] [] pos) c.env; standAt (Expr.pos (.Call (.Attribute a "isspace" ap) [] [] pos)); holding [v] (truthy v))) : Tb c m l (.Call (.Attribute a "isspace" ap) [] [] pos) (Txt.isspace y) := by
 refine Tb.bool (EvG.ev ((EvG.isspace (R := fun l2 => l2 = l) (EvG.mono ha.g fun v l2 h => ⟨h.1, h.2⟩) hc).mono fun v l2 h => ⟨h.1, h.2⟩)) hw
theorem Ev.accItem {k : Int} {v : Value} {i : Nat} (ok : c.OkG) (ha : Ev c m l a (.ref x)) (hA : AtA l x dx its sz i) (hb : Ev c m l b (vI k)) (h0 : 0 <= k) (h1 : k < 1000000) (hv : its[k.toNat]? = some v)
  (hs : ∀ u, subscripted b false (.ref x) (.int k u) = operate [.ref x, .int k u] (getItem (.ref x) (.int k u))) : Ev c m l (.Subscript a b pos) v := by
 intro Q E s S h
 refine Subscript_ (ha _ _ s S fun va s1 ea S1 => hb _ _ s1 S1 fun vb s2 eb S2 => ?_)
 obtain rfl := q04 ea
 (refine E_e (q0a eb) fun u z1z => ?_; subst z1z)
 (refine q1i hA fun h1' j dz h2 hz1 => ?_; (try clear hA))
 (refine q07 (S2.acc h1' h2 hz1.fix) fun its' ep I hi => ?_)
 have S3 := S2
 (refine q0g S2 fun m' led' F hm' N hl _ => ?_; (try clear S2))
 rw [<- hi, List.getElem?_map, Option.map_eq_some_iff] at hv
 (refine E_ea hv fun v' h5 h6 => ?_; (try clear hv))
 refine qg9 F ok.X I ?d1 ?d2 ?d3 h0 h1 h5 (h _ _ h6 S3) (hs u)
 case d1 => k_is
 case d2 => k_is
 case d3 => k_is
end
end
section
noncomputable abbrev sv (y : Str) : Value := .str y 0
section
variable {c : Cx} {m : Fm} {l ex : Led} {F : FX} {σ : FZ}
theorem ChE.at {q : Str × Str} : ∀ {its : List Value} {chs : List (Str × Str)} {i : Nat}, ChE ex its chs -> chs[i]? = some q -> ∃ t, its[i]? = some (.ref t) /\ (t, tpO [sv q.1, sv q.2]) ∈ ex
 | v :: its, c :: chs, 0, h, e => by
  obtain rfl := Option.some.inj e
  (refine E_ea (h.1) fun t z1z hm => ?_; subst z1z)
  exact ⟨t, rfl, hm⟩
 | v :: its, c :: chs, i + 1, h, e => ChE.at (i := i) h.2 e
 | [], [], _, _, e => by cases e
theorem ChE.take {its : List Value} {chs : List (Str × Str)} (h : ChE ex its chs) (i : Nat) : ChE ex (its.take i) (chs.take i) := by
 induction i generalizing its chs with
 | zero => trivial
 | succ i ih =>
  cases its <;> cases chs
  ·trivial
  ·exact h.elim
  ·exact h.elim
  ·exact ⟨h.1, ih h.2⟩
theorem ChE.drop {its : List Value} {chs : List (Str × Str)} (h : ChE ex its chs) (i : Nat) : ChE ex (its.drop i) (chs.drop i) := by
 induction i generalizing its chs with
 | zero => exact h
 | succ i ih =>
  cases its <;> cases chs
  ·trivial
  ·exact h.elim
  ·exact h.elim
  ·exact ih h.2
noncomputable def JX (c : Cx) (I : Fm -> Led -> Prop) (P : Flow -> Shared -> Prop) : Flow -> Shared -> Prop
 | .next, s => ∃ m l, I m l /\ SS c m l s
 | f, s => P f s
theorem Bd.iteX {test : Expr} {body orelse rest : List Stmt} {t : Bool} {pos : Pos} {P : Flow -> Shared -> Prop} (I : Fm -> Led -> Prop) (ht : Tb c m l test t) (h1 : t = true -> Bd c m l body (JX c I P)) (h2 : t = false -> Bd c m l orelse (JX c I P)) (hr : ∀ m l, I m l -> Bd c m l rest P) : Bd c m l (.If test body orelse pos :: rest) P := by
 have fin : ∀ f s, JX c I P f s -> q3t c rest P f s := by
  intro f s h
  cases f with
  | next => (refine q07 h fun m2 l2 hI S => ?_; (try clear h)); exact fun Q E hE k => hr m2 l2 hI Q E s hE S k
  | _ => exact h
 exact Bd.ite ht (fun h => (h1 h).mono fin) fun h => (h2 h).mono fin
theorem EvG.fmtM {name : Str} {f : Addr} {a : Expr} {es : List Expr} {vs : List Value} {R : Value -> Led -> Prop} {pl : Sem Bool} {ap pos : Pos} (ok : c.OkG) (hF : F.Ok) (hl : FL F σ ex l) (ha : Ev c m l a (.ref F.fo))
  (hg : plainGet (Mine.hd.heap_1 c.w.params) 165 name = true) (hf : findIn (Mine.hd.heap_1 c.w.params) (.ref 165) name = some (some (.ref f))) (ht : isFn (Mine.hd.heap_1 c.w.params) (.ref f) = true) (hk : keepIn (Mine.hd.heap_1 c.w.params) (.ref f) = true)
  (hn : ∀ K, ∃ n es, fmtD K F.Wd F.sp F.ll F.a1 = dictOf es n /\ getL name es = some none) (ha2 : EvA c m l es vs) (hcl : Cl c m l (.ref f) (.ref F.fo :: vs) R)
  (hc : eval (.Call (.Attribute a name ap) es [] pos) c.env = (do let ov <- eval a c.env; standAt ap.atName; let (f, first) <- holding [ov] (getMethod ov name pl); callWith pos f first (backTo pos (starEach es c.env)) []))
  (hp : (backTo pos (starEach es c.env)).any (·.1) = false) : EvG c m l (.Call (.Attribute a name ap) es [] pos) R := by
 intro Q E s h' h
 refine MethodCall_ (ha _ _ s h' fun va s1 ea S1 => ?_) hc
 obtain rfl := q04 ea
 (refine E_e hF fun K hK => ?_; (try clear hF))
 (refine q07 (hn K) fun n es9 e1 e2 => ?_)
 (refine q09 hl fun dz pa pb h1 h2 h3 z1z => ?_; (try clear hl); subst z1z)
 have g1 := S1.obj (i := 0) (a := F.fo) (o := fmtO F.fd) rfl rfl
 have g2 := S1.obj (i := 1) (a := F.fd) (o := dictOf es9 n) (by rw [<- e1, <- hK]; rfl) rfl
 have S2 := S1
 (refine q00 S1 fun m' led' F' hm' N hl' hn' hg' => ?_; (try clear S1))
 exact method_inst F' ok.X (ox := fmtO F.fd) ⟨g1, rfl, rfl, g2⟩ hg hf ht e2 (ha2.callK ok hp hk S2 hcl h)
noncomputable def AcR (F : FX) (ex ex0 : Led) (n : Nat) (st : FS) (v : Value) (l' : Led) : Prop := v = .none /\ ∃ r its', FL F ⟨its', st.rows.map sv, st.sz⟩ (r ++ ex) l' /\ ChE (r ++ ex0) its' st.chs /\ its'.length <= n + 1
theorem qez {ex0 : Led} {ls : List Str} {chs : List (Str × Str)} {f1 p1 : Str} (ok : c.OkG) (bare : c.Bare) (hF : F.Ok) (hsp : F.sp.cps.all (· < 128) = true) (hl : FL F σ ex l) (he0 : ∀ p ∈ ex0, p ∈ ex) (hC : ChE ex0 σ.its chs) (hL : σ.lines = ls.map sv) (hz : σ.its.length <= 300) (hln : ls.length <= 300)
  (hsz : 0 <= σ.sz /\ σ.sz + csum chs + q0l (f1, p1) < 100000) (hall : ∀ q ∈ chs ++ [(f1, p1)], ((0 < q.1.length /\ q.1.length < 1000) /\ 0 < q.2.length /\ q.2.length < 1000) /\ PyData.strOk q.1 = true /\ PyData.strOk q.2 = true) (hd : c.dp + 200 < recursionLimit) (hu : c.un + 3000 < cLine) :
  Cl c m l (.ref 162) [.ref F.fo, sv f1, sv p1] (AcR F ex ex0 σ.its.length (q1m F.Wd F.sp ⟨ls, chs, σ.sz⟩ (f1, p1))) := by
 refine' Cl.dfnD [Str.ofString "self", Str.ofString "fws", Str.ofString "string"] [] ok ?ho ?hcd ?hroom ?hbind ?hloc ?z1 ?z2 ?z3 ?z4 ?h
 case ho => k_is
 case hcd => k_is
 case hroom => exact room (j := 0) hd (by decide)
 case hbind =>
  intro s vs' _ hl
  (refine q2n (ex3 hl) fun v1 v2 v3 z1z => ?_; subst z1z)
  exact BindsTo.of_eq rfl
 case hloc => rfl
 case z1 => rfl
 case z2 => rfl
 case z3 => rfl
 case z4 => decide
 case h =>
 intro L' g okc hlt
 have hd1 : c.dp + 1 + 199 < recursionLimit := hd
 have hu1 : c.un + 3 + 2900 < cLine := Nat.lt_of_le_of_lt (by rw [Nat.add_assoc]; exact Nat.add_le_add_left (by decide) _) hu
 have hlc : σ.its.length = chs.length := hC.len
 refine Bd.expr (EvG.accF okc.toOkG hl (Ev.cur okc.toOkG hF hl (by wtm_at "ev") (by with_unfolding_all rfl)) (by k_is) (by k_is) (by k_is) (by intros; rfl) (by wtm_at "eva") (qfq okc.toOkG hl (Nat.le_trans hz (by decide)) (room hd1 (by decide))).cl rfl rfl) (fun v l2 hv => ?_) rfl rfl
 (refine E_ae hv fun z1z D hl2 => ?_; (try clear hv); (try clear z1z))
 have hC1' : ChE ((D, tpO [sv f1, sv p1]) :: ex0) (σ.its ++ [.ref D]) (chs ++ [(f1, p1)]) := (hC.mono fun p hp => .tail _ hp).snoc (.head _)
 have he1 : ∀ p ∈ (D, tpO [sv f1, sv p1]) :: ex0, p ∈ (D, tpO [sv f1, sv p1]) :: ex := fun p hp => (List.mem_cons.mp hp).elim (fun h => h ▸ .head _) fun h => .tail _ (he0 p h)
 have hC1 := hC1'.mono he1
 have hC0' : ChE ((D, tpO [sv f1, sv p1]) :: ex) σ.its chs := hC.mono fun p hp => .tail _ (he0 p hp)
 have hs1 : (D, tpO [sv f1, sv p1]) :: ex = [(D, tpO [sv f1, sv p1])] ++ ex := rfl
 have hm1 : (D, tpO [sv f1, sv p1]) ∈ (D, tpO [sv f1, sv p1]) :: ex := .head _
 have hz1 : (σ.its ++ [Value.ref D]).length = σ.its.length + 1 := by rw [List.length_append]; rfl
 have hcs : csum (chs ++ [(f1, p1)]) = csum chs + q0l (f1, p1) := q41 _ _
 have hcn := q1j (chs ++ [(f1, p1)])
 have hsz2 : 0 <= σ.sz /\ σ.sz + csum (chs ++ [(f1, p1)]) < 100000 := ⟨hsz.1, by rw [hcs]; exact o414 hsz⟩
 clear hl
 clear he1
 generalize hie : σ.its ++ [Value.ref D] = its1 at hl2 hC1 hC1' hz1
 generalize ((D, tpO [sv f1, sv p1]) :: ex) = ex1 at hl2 hC1 hs1 hm1 hC0'
 have hlen := fun (c2 : Cx) (ok2 : c2.OkG) (b2 : c2.Bare) (m2 : Fm) (l3 : Led) (h3 : FL F ⟨its1, σ.lines, σ.sz⟩ ex1 l3) => lenH (m := m2) ok2 b2 h3 (hC1.mono fun p hp => h3.mem hp) (show its1.length <= 1000 by rw [hz1]; exact Nat.lt_of_le_of_lt hz (by decide)) (show 0 <= σ.sz /\ σ.sz + csum (chs ++ [(f1, p1)]) < 1000000 from ⟨hsz2.1, by exact o421 hsz hcs⟩)
 have hbd : 0 <= σ.sz + csum (chs ++ [(f1, p1)]) /\ σ.sz + csum (chs ++ [(f1, p1)]) < 2 ^ 63 := ⟨by exact o419 hsz hcn, by exact o420 hsz hcs⟩
 refine Bd.iteG (TbG.gt (EvG.lenA okc.toOkG (by wtm_at "ev") (Ev.cur okc.toOkG hF hl2 (by wtm_at "ev") (by with_unfolding_all rfl)) hl2.atA (hlen _ okc.toOkG.up bare _ _ hl2 (room hd1 (by decide)) (units hu1 (j := 1 + 200) (by decide))) hbd rfl rfl) (fun l3 h3 => FL.fmt (v := vI F.Wd) okc.toOkG hF h3 (by wtm_at "ev") (by k_is) (by k_is) (by k_is) (fun K => ⟨_, _, _, rfl, rfl, rfl, rfl⟩) (by with_unfolding_all rfl)) rfl) (fun hb l3 hl3 => ?_) (fun hb l3 hl3 => ?_)
 rotate_left
 ·have hno := of_decide_eq_false hb
  refine Bd.fall (Bd.nil fun s S => ⟨_, _, S, rfl, [(D, tpO [sv f1, sv p1])], its1, ?_, ?_, Nat.le_of_eq hz1⟩)
  ·rw [<- hs1]; unfold q1m; rw [if_neg hno]; rw [<- hL]; exact hl3
  ·unfold q1m; rw [if_neg hno]; exact hC1'
 have hgt := of_decide_eq_true hb
 have hcl : ∀ i, csum ((chs ++ [(f1, p1)]).take i) <= csum (chs ++ [(f1, p1)]) := q66 _
 have hl8 : (chs ++ [(f1, p1)]).length - 1 = σ.its.length := by rw [List.length_append, hlc]; rfl
 refine' Bd.forE (n := F.sp.cps.size) (rest := _) (IT := fun _ => ITs F.sp) (W := fun _ io l => ITs F.sp 0 io /\ l = l3) okc ?f1 (ItE.str (sp := F.sp) ?f2 hsp)
  (fun j m1 l1 => l1 = l3 /\ m1 (Str.ofString "self") = some (.ref F.fo) /\ ∀ j' d, j' < j -> F.sp.cps[j']? = some d -> q3g d (chs ++ [(f1, p1)]) σ.its.length = none)
  (fun m1 l1 => ∃ (i : Nat) (ex9 : Led), FL F ⟨its1, σ.lines, σ.sz⟩ ex9 l1 /\ ex1.Sublist ex9 /\ m1 (Str.ofString "self") = some (.ref F.fo) /\ m1 (Str.ofString "i") = some (vI i) /\ 1 <= i /\ i <= σ.its.length /\ q4c (chs ++ [(f1, p1)]) F.sp.cps.toList = some i) ?f3 (fun _ => qa1) ?turn ?broke ?done ?f4
 case f1 => rfl
 case f2 => exact FL.fmt (v := sv F.sp) okc.toOkG hF hl3 (by wtm_at "ev") (by k_is) (by k_is) (by k_is) (fun K => ⟨_, _, _, rfl, rfl, rfl, rfl⟩) (by with_unfolding_all rfl)
 case f3 => (intro It; intro io; intro _; intro z1y; refine E_a z1y fun h z2z => ?_; (try clear z1y); subst z2z); exact ⟨h, rfl, rfl, fun j' d h => absurd h (Nat.not_lt_zero _)⟩
 case f4 => intro v; rfl
 case broke =>
  (intro m1; intro l1; intro z1y; refine q32 z1y fun i ex9 hl9 hsl g1 g2 hi1 hi2 hsk => ?_; (try clear z1y))
  clear hl3
  (refine E_ea (hl9.sub hsl) fun l3 hl3 hs3 => ?_)
  refine Bd.sub hs3 ?_
  have hst : q1m F.Wd F.sp ⟨ls, chs, σ.sz⟩ (f1, p1) = ⟨ls ++ [q0m ((chs ++ [(f1, p1)]).take i)], (chs ++ [(f1, p1)]).drop i, 0⟩ := by unfold q1m; rw [if_pos hgt]; dsimp only; rw [hsk]
  rw [hst]
  refine Bd.assignG okc (EvG.accF okc.toOkG hl3 (Ev.cur okc.toOkG hF hl3 (Ev.name okc rfl rfl g1) (by with_unfolding_all rfl)) (by k_is) (by k_is) (by k_is) (by intros; rfl) (EvA.cons rfl (Ev.name okc rfl rfl g2) EvA.nil) (qdm okc.toOkG hl3 (show its1.length <= 900 by rw [hz1]; exact Nat.lt_of_le_of_lt hz (by decide)) (show i <= its1.length by rw [hz1]; exact Nat.le_succ_of_le hi2) (room hd1 (by decide))) rfl rfl) (fun v l4 hv => ?_) rfl rfl
  (refine E_ea hv fun D2 z1z hl4 => ?_; (try clear hv); subst z1z)
  have hC4 := hC1.take i
  have hz4 : (its1.take i).length <= 400 := Nat.le_trans (List.length_take_le' _ _) (by rw [hz1]; exact Nat.lt_of_le_of_lt hz (by decide))
  have hb4 := Int.lt_of_le_of_lt (hcl i) (show csum (chs ++ [(f1, p1)]) < 1000000 by exact o424 hsz hcs)
  refine Bd.expr (EvG.append (D := F.ll) (vs := σ.lines) (R := fun v l' => v = sv (q0m ((chs ++ [(f1, p1)]).take i)) /\ FL F ⟨its1.take i, σ.lines, σ.sz⟩ ((D2, lsO (its1.drop i)) :: ex1) l') (R' := fun _ l' => FL F ⟨its1.take i, σ.lines ++ [sv (q0m ((chs ++ [(f1, p1)]).take i))], σ.sz⟩ ((D2, lsO (its1.drop i)) :: ex1) l') (Ev.lines okc.toOkG hF hl4 (Ev.name okc rfl rfl g1) (by with_unfolding_all rfl))
   (EvG.strA okc.toOkG (units hu1 (by decide)) (by wtm_at "ev") (Ev.cur okc.toOkG hF hl4 (Ev.name okc rfl rfl g1) (by with_unfolding_all rfl)) hl4.atA (strH okc.toOkG.up.up bare hl4 (hC4.mono fun p hp => hl4.mem (.tail _ hp)) (Nat.le_trans hz4 (by decide)) hb4 (room hd1 (by decide)) (units hu1 (j := 2 + 200) (by decide))) rfl rfl) ?_ ?_ (by rw [hL, List.length_map]; exact Nat.le_trans hln (by decide)) (by with_unfolding_all rfl) rfl) (fun v l5 hl5 => ?_) rfl rfl
  ·(intro _; intro l6; intro z1y; refine q63 z1y fun z2z dz pa pb h1 h2 h3 z3z => ?_; (try clear z1y); subst z2z; subst z3z)
   exact ⟨4, rfl, dz, pa, pb, h1, h2, h3, rfl⟩
  ·(refine q09 hl4 fun dz pa pb h1 h2 h3 z1z => ?_; (try clear hl4); subst z1z)
   exact ⟨4, rfl⟩
  refine Bd.expr (EvG.accF okc.toOkG hl5 (Ev.cur okc.toOkG hF hl5 (Ev.name okc rfl rfl g1) (by with_unfolding_all rfl)) (by k_is) (by k_is) (by k_is) (by intros; rfl) (EvA.cons rfl (Ev.name okc rfl rfl rfl) EvA.nil) (qdo (j := 0) (B := D2) okc.toOkG hl5 (Nat.le_trans (Nat.add_le_add hz4 (show (its1.drop i).length <= 400 by rw [List.length_drop, hz1]; exact o148 hz)) (by decide)) (.inr ⟨rfl, rfl⟩) (room hd1 (by decide))) rfl rfl) (fun v l6 hv => ?_) rfl rfl
  (refine E_a hv fun z1z hl6 => ?_; (try clear hv); (try clear z1z))
  (refine E_ea (hl6.sub (.cons _ (.refl _))) fun l7 hl7 hs7 => ?_)
  refine Bd.fall (Bd.nil fun s S => ⟨_, _, S.sublist hs7, rfl, [(D, tpO [sv f1, sv p1])], its1.drop i, ?_, hC1'.drop i, by rw [List.length_drop, hz1]; exact Nat.sub_le _ _⟩)
  rw [List.map_append, <- hL, <- hs1]; exact hl7
 case done =>
  (intro m1; intro _; intro z1y; refine E_aa z1y fun z2z g1 hG => ?_; (try clear z1y); subst z2z)
  have hsk : q4c (chs ++ [(f1, p1)]) F.sp.cps.toList = none := q3f fun d hd => by
   (refine E_e (List.getElem?_of_mem hd) fun j hj => ?_)
   rw [hl8]
   exact hG j d (by have h := (List.getElem?_eq_some_iff.mp hj).1; simpa using h) (by simpa using hj)
  have hst : q1m F.Wd F.sp ⟨ls, chs, σ.sz⟩ (f1, p1) = if σ.sz > 0 then ⟨ls ++ [q0m chs], [(f1, p1)], 0⟩ else ⟨ls, chs ++ [(f1, p1)], σ.sz⟩ := by unfold q1m; rw [if_pos hgt]; dsimp only; rw [hsk]
  rw [hst]
  have hf1 := (hall (f1, p1) (List.mem_append_right _ (.head _)))
  refine Bd.assignT okc (EvG.accF okc.toOkG hl3 (Ev.cur okc.toOkG hF hl3 (Ev.name okc rfl rfl g1) (by with_unfolding_all rfl)) (by k_is) (by k_is) (by k_is) (by intros; rfl) EvA.nil (qgc (init := σ.its) (v := .ref D) okc.toOkG hl3 hie.symm (Nat.le_trans hz (by decide)) (room hd1 (by decide)) (units hu1 (by decide))) rfl rfl) rfl rfl (fun v l4 hv => ?_) rfl rfl
  (refine E_a hv fun z1z hl4 => ?_; (try clear hv); subst z1z)
  (refine E_e (q16 (hl4.mem hm1)) fun jD hjD => ?_)
  refine ⟨D, jD, sv f1, sv p1, rfl, hjD, ?_⟩
  (refine q1i (hl4.atA) fun q1 jz dz q2 hdz => ?_)
  refine Bd.iteJ (fun m2 l2 => FL F (if σ.sz > 0 then ⟨[], σ.lines ++ [sv (q0m chs)], 0⟩ else ⟨σ.its, σ.lines, σ.sz⟩) ex1 l2 /\ m2 (Str.ofString "self") = some (.ref F.fo) /\ m2 (Str.ofString "fws") = some (sv f1) /\ m2 (Str.ofString "part") = some (sv p1)) (Tb.gt (Ev.asize okc.toOkG (Ev.cur okc.toOkG hF hl4 (Ev.name okc rfl rfl g1) (by with_unfolding_all rfl)) q1 q2 hdz (by with_unfolding_all rfl)) Ev.int rfl) (fun hb => ?_) (fun hb => ?_) ?_
  ·have hsz0 : σ.sz > 0 := of_decide_eq_true hb
   rw [if_pos hsz0]
   refine Bd.expr (EvG.fmtM okc.toOkG hF hl4 (Ev.name okc rfl rfl g1) (by k_is) (by k_is) (by k_is) (by k_is) (fun K => ⟨_, _, rfl, rfl⟩) EvA.nil (q8u okc.toOkG bare hF hl4 hC0' (Nat.le_trans hz (by decide)) (by show σ.lines.length <= 500; rw [hL, List.length_map]; exact Nat.le_trans hln (by decide)) ⟨hsz.1, ?_⟩ (fun q hq => ?_) (.inr hsz0) (fun h => ?_) (room hd1 (by decide)) (units hu1 (by decide))) rfl rfl) (fun v l5 hv => ?_) rfl rfl
   ·show σ.sz + csum chs < 100000
    have : 0 <= q0l (f1, p1) := by show (0 : Int) <= (f1.length : Nat) + (p1.length : Nat); exact Int.natCast_nonneg _
    omega
   ·(refine E_a (hall q (List.mem_append_left _ hq)) fun e1 e2 => ?_)
    exact ⟨e2.1, e2.2, fun h => by rw [h] at e1; exact absurd e1.2.1 (by decide)⟩
   ·have h' : σ.sz = 0 := h
    exact (o357 hsz0 h').elim
   (refine E_a hv fun z1z hl5 => ?_; (try clear hv); (try clear z1z))
   refine Bd.ite (Tb.not (Tb.str (y := f1) (Ev.name okc rfl rfl rfl) (Nat.le_of_lt hf1.1.1.2) rfl)) (fun hb => ?_) (fun _ => Bd.fall (Bd.nil fun s S => ⟨rfl, updM (updM m1 (Str.ofString "fws") (sv f1)) (Str.ofString "part") (sv p1), l5, ⟨hl5, g1, rfl, rfl⟩, S⟩))
   rw [decide_eq_true hf1.1.1.1] at hb; cases hb
  ·have hsz0 : ¬ σ.sz > 0 := of_decide_eq_false hb
   rw [if_neg hsz0]
   exact Bd.nil fun s S => ⟨rfl, updM (updM m1 (Str.ofString "fws") (sv f1)) (Str.ofString "part") (sv p1), l4, ⟨hl4, g1, rfl, rfl⟩, S⟩
  (intro m2; intro l2; intro z1y; refine q2e z1y fun hl5 g2 g3 g4 => ?_; (try clear z1y))
  have hz5 : (if σ.sz > 0 then (⟨[], σ.lines ++ [sv (q0m chs)], 0⟩ : FZ) else ⟨σ.its, σ.lines, σ.sz⟩).its.length <= 1000 := by
   split
   ·exact Nat.zero_le _
   ·exact Nat.le_trans hz (by decide)
  refine Bd.expr (EvG.accF okc.toOkG hl5 (Ev.cur okc.toOkG hF hl5 (Ev.name okc rfl rfl g2) (by with_unfolding_all rfl)) (by k_is) (by k_is) (by k_is) (by intros; rfl) (EvA.cons rfl (Ev.name okc rfl rfl g3) (EvA.cons rfl (Ev.name okc rfl rfl g4) EvA.nil)) (qfq okc.toOkG hl5 hz5 (room hd1 (by decide))).cl rfl rfl) (fun v l6 hv => ?_) rfl rfl
  (refine E_ae hv fun z1z D2 hl6 => ?_; (try clear hv); (try clear z1z))
  have hC2 : ChE ((D2, tpO [sv f1, sv p1]) :: (D, tpO [sv f1, sv p1]) :: ex0) σ.its chs := hC.mono fun p hp => .tail _ (.tail _ hp)
  rw [hs1] at hl6
  refine Bd.ret0 fun s S => ⟨_, _, S, rfl, [(D2, tpO [sv f1, sv p1]), (D, tpO [sv f1, sv p1])], (if σ.sz > 0 then (⟨[], σ.lines ++ [sv (q0m chs)], 0⟩ : FZ) else ⟨σ.its, σ.lines, σ.sz⟩).its ++ [.ref D2], ?_⟩
  by_cases hsz0 : σ.sz > 0
  ·rw [if_pos hsz0] at hl6
   rw [if_pos hsz0, if_pos hsz0]
   exact ⟨by rw [List.map_append, <- hL]; exact hl6, ⟨⟨D2, rfl, .head _⟩, trivial⟩, Nat.le_add_left _ _⟩
  ·rw [if_neg hsz0] at hl6
   rw [if_neg hsz0, if_neg hsz0]
   exact ⟨by rw [<- hL]; exact hl6, hC2.snoc (.head _), by rw [List.length_append]; exact Nat.le_refl _⟩
 case turn =>
  (intro It; intro j; intro m1; intro l3; intro io; intro hj; intro z1y; refine E_aa z1y fun z2z g1 hG => ?_; (try clear z1y); subst z2z)
  (refine E_e (⟨_, Array.getElem?_eq_getElem hj⟩ : ∃ d, F.sp.cps[j]? = some d) fun d hd0 => ?_)
  rw [show F.sp.cps.getD j 0 = d by rw [Array.getD_eq_getD_getElem?, hd0]; rfl]
  (refine E_ea (hl3.add (It, io)) fun l5 hl5 hp5 => ?_)
  refine Bd.perm hp5 ?_
  refine' Bd.forE (n := σ.its.length) (IT := fun _ => ITg σ.its.length (-1) σ.its.length) (W := fun _ io l => ITg σ.its.length (-1) σ.its.length 0 io /\ l = l5) okc ?f1 (ItE.down (n := σ.its.length) ?f2 ?f5 ?f6 ?f7 ?f8 ?f9)
   (fun k m2 l2 => l2 = l5 /\ m2 (Str.ofString "self") = some (.ref F.fo) /\ m2 (Str.ofString "ch") = some (sv ⟨#[d]⟩) /\ ∀ i, σ.its.length - k < i -> i <= σ.its.length -> hit d (chs ++ [(f1, p1)]) i = false)
   (fun m2 l2 => ∃ (i : Nat) (ex9 : Led), FL F ⟨its1, σ.lines, σ.sz⟩ ex9 l2 /\ ex1.Sublist ex9 /\ m2 (Str.ofString "self") = some (.ref F.fo) /\ m2 (Str.ofString "i") = some (vI i) /\ 1 <= i /\ i <= σ.its.length /\ q3g d (chs ++ [(f1, p1)]) σ.its.length = some i) ?f3 (fun _ => qei) ?turn ?broke ?done ?f4
  case f1 => rfl
  case f2 => wtm_at "ev"
  case f5 =>
   refine EvA.cons rfl (Ev.to (Ev.sub (EvG.ev (EvG.accF okc.toOkG hl5 (Ev.cur okc.toOkG hF hl5 (Ev.name okc rfl rfl g1) (by with_unfolding_all rfl)) (by k_is) (by k_is) (by k_is) (by intros; rfl) EvA.nil (pcH okc.toOkG hl5 (room hd1 (by decide)) (units hu1 (by decide))) rfl rfl)) Ev.int) ?_) (EvA.cons rfl Ev.int (EvA.cons rfl (Ev.neg Ev.int) EvA.nil))
   show Value.int ((its1.length : Int) - 1) 0 = vI σ.its.length
   rw [hz1]; exact congrArg vI (by exact o66)
  case f6 => exact Nat.lt_of_le_of_lt hz (by decide)
  case f7 => with_unfolding_all rfl
  case f8 => rfl
  case f9 => rfl
  case f4 => intro v; rfl
  case f3 => (intro It2; intro io2; intro _; intro z1y; refine E_a z1y fun h z2z => ?_; (try clear z1y); subst z2z); exact ⟨h, rfl, g1, rfl, fun i h1 h2 => absurd h1 (by exact fun h => absurd h (Nat.not_lt_of_le h2))⟩
  case broke =>
   (intro m2; intro l2; intro z1y; refine q32 z1y fun i ex9 hl9 hsl e1 e2 hi1 hi2 hsk => ?_; (try clear z1y))
   exact Bd.brk fun s S => ⟨m2, l2, ⟨i, ex9, hl9, hsl, e1, e2, hi1, hi2, q3a (c := d) (j := j) (by rw [hl8]; exact hsk) (by simpa using hd0) fun j' d' a b => by rw [hl8]; exact hG j' d' a (by simpa using b)⟩, S⟩
  case done =>
   (intro m2; intro l5; intro z1y; refine q2e z1y fun z2z e1 e2 hH => ?_; (try clear z1y); subst z2z)
   refine Bd.cont fun s S => ⟨m2, l3, ⟨rfl, e1, fun j' d' hj' hd' => ?_⟩, S.perm hp5.symm⟩
   rcases Nat.lt_succ_iff_lt_or_eq.mp hj' with h | rfl
   ·exact hG j' d' h hd'
   ·obtain rfl : d = d' := Option.some.inj (hd0.symm.trans hd')
    exact q22 fun i h0 h1 => hH i (by exact o120 h0) h1
  case turn =>
   (intro It2; intro k; intro m2; intro l5; intro io2; intro hk; intro z1y; refine q2e z1y fun z2z e1 e2 hH => ?_; (try clear z1y); subst z2z)
   (refine E_e (⟨_, rfl⟩ : ∃ i : Nat, i = σ.its.length - k) fun i hi => ?_)
   rw [show (σ.its.length : Int) + (k : Nat) * (-1) = (i : Int) by omega]
   (refine E_ea (hl5.add (It2, io2)) fun l6 hl6 hp6 => ?_)
   refine Bd.perm hp6 ?_
   have hi1 : 1 <= i := by exact o230 hk hi
   have hi2 : i <= σ.its.length := by exact o226 hi
   have hln9 : (chs ++ [(f1, p1)]).length = σ.its.length + 1 := by rw [List.length_append, hlc]; rfl
   (refine E_e (⟨_, List.getElem?_eq_getElem (by rw [hln9]; exact o225 hi)⟩ : ∃ q, (chs ++ [(f1, p1)])[i]? = some q) fun z1z hca => ?_; obtain ⟨fa, pa⟩ := z1z)
   (refine E_e (⟨_, List.getElem?_eq_getElem (by rw [hln9]; exact o224 hi)⟩ : ∃ q, (chs ++ [(f1, p1)])[i - 1]? = some q) fun z1z hcb => ?_; obtain ⟨fb, pb⟩ := z1z)
   (refine E_ea (hC1.at hca) fun ta hta hma => ?_)
   (refine E_ea (hC1.at hcb) fun tb htb hmb => ?_)
   have hla : 0 < fa.length /\ fa.length < 1000 := (hall _ (List.mem_of_getElem? hca)).1.1
   have hlb : 0 < pb.length /\ pb.length < 1000 := (hall _ (List.mem_of_getElem? hcb)).1.2
   have hh := qdu (c := d) hca hcb
   (refine E_e (q16 (hl6.mem (.tail (It2, io2) (.tail (It, io) hma)))) fun ja hja => ?_)
   (refine E_e (q16 (hl6.mem (.tail (It2, io2) (.tail (It, io) hmb)))) fun jb hjb => ?_)
   have hnxt : hit d (chs ++ [(f1, p1)]) i = false -> ∀ i', σ.its.length - (k + 1) < i' -> i' <= σ.its.length -> hit d (chs ++ [(f1, p1)]) i' = false := fun h i' a b => by
    by_cases e : i' = i
    ·rw [e]; exact h
    ·exact hH i' (by exact o275 hi a e) b
   have hbrk : hit d (chs ++ [(f1, p1)]) i = true -> q3g d (chs ++ [(f1, p1)]) σ.its.length = some i := fun h => q3j (by exact hi1) h (by exact o226 hi) fun j a b => hH j (by exact o276 hi a) b
   have hsx : ex1.Sublist ((It2, io2) :: (It, io) :: ex1) := .cons _ (.cons _ (.refl _))
   have hib : (i : Int) < 1000000 := by exact o236 hz hi
   have hib2 : (i : Int) - 1 < 1000000 := by exact o11 hib
   have hib3 : 0 <= (i : Int) - 1 := by exact o28 hi1
   have htb2 : its1[((i : Int) - 1).toNat]? = some (.ref tb) := by rw [show ((i : Int) - 1).toNat = i - 1 by exact o90]; exact htb
   clear hH hca hcb hma hmb hC1 hall
   refine Bd.iteX (fun m3 l4 => l4 = l6 /\ m3 (Str.ofString "self") = some (.ref F.fo) /\ m3 (Str.ofString "ch") = some (sv ⟨#[d]⟩) /\ m3 (Str.ofString "i") = some (vI i) /\ (Txt.isspace ⟨#[d]⟩ && (Txt.item fa 0 == (⟨#[d]⟩ : Str))) = false) (Tb.isspace (y := ⟨#[d]⟩) (Ev.name okc rfl rfl e2) (by with_unfolding_all rfl) rfl) (fun hb => ?_) (fun hb => Bd.nil fun s S => ⟨updM m2 (Str.ofString "i") (vI i), l6, ⟨rfl, e1, e2, rfl, by rw [hb]; rfl⟩, S⟩) ?_
   ·refine Bd.assign okc (v := sv fa) (Ev.titem (j := 0) (Ev.accItem okc.toOkG (Ev.cur okc.toOkG hF hl6 (Ev.name okc rfl rfl e1) (by with_unfolding_all rfl)) hl6.atA (Ev.name okc rfl rfl rfl) (Int.natCast_nonneg i) hib hta (by intro u; rfl)) Ev.int hja (by decide) (by decide) rfl rfl (by intro u; rfl)) ?_ rfl rfl
    refine Bd.ite (Tb.and (TbA.cons (Tb.str (y := fa) (Ev.name okc rfl rfl rfl) (Nat.le_of_lt hla.2) rfl) (TbA.cons (Tb.eqS (Ev.sitem (k := 0) (Ev.name okc rfl rfl rfl) Ev.int (by exact o81) (by exact o13 hla) (Nat.le_of_lt hla.2) (by intro t u; rfl) (by intro t r; rfl)) (Ev.name okc rfl rfl e2) rfl) TbA.nil))) (fun hb2 => ?_) (fun hb2 => ?_)
    ·have hq : (Txt.item fa 0 == (⟨#[d]⟩ : Str)) = true := ((Bool.and_eq_true _ _).mp ((Bool.and_eq_true _ _).mp hb2).2).1
     exact Bd.brk fun s S => ⟨updM (updM m2 (Str.ofString "i") (vI i)) (Str.ofString "fws") (sv fa), l6, ⟨i, _, hl6, hsx, e1, rfl, hi1, hi2, hbrk (by rw [hh, hb, hq]; rfl)⟩, S⟩
    ·have hq : (Txt.item fa 0 == (⟨#[d]⟩ : Str)) = false := by
      rw [decide_eq_true hla.1, Bool.true_and, Bool.and_true] at hb2; exact hb2
     exact Bd.fall (Bd.nil fun s S => ⟨updM (updM m2 (Str.ofString "i") (vI i)) (Str.ofString "fws") (sv fa), l6, ⟨rfl, e1, e2, rfl, by rw [hq, Bool.and_false]⟩, S⟩)
   (intro m3; intro l6; intro z1y; refine q2r z1y fun z2z e3 e4 e5 hb => ?_; (try clear z1y); subst z2z)
   refine Bd.assign okc (v := sv pb) (Ev.titem (j := 1) (Ev.accItem okc.toOkG (Ev.cur okc.toOkG hF hl6 (Ev.name okc rfl rfl e3) (by with_unfolding_all rfl)) hl6.atA (Ev.sub (Ev.name okc rfl rfl e5) Ev.int) hib3 hib2 htb2 (by intro u; rfl)) Ev.int hjb (by decide) (by decide) rfl rfl (by intro u; rfl)) ?_ rfl rfl
   refine Bd.ite (Tb.and (TbA.cons (Tb.str (y := pb) (Ev.name okc rfl rfl rfl) (Nat.le_of_lt hlb.2) rfl) (TbA.cons (Tb.eqS (Ev.sitem (k := -1) (Ev.name okc rfl rfl rfl) (Ev.neg Ev.int) (by exact o12 hlb) (by exact Int.natCast_nonneg _) (Nat.le_of_lt hlb.2) (by intro t u; rfl) (by intro t r; rfl)) (Ev.name okc rfl rfl e4) rfl) TbA.nil))) (fun hb2 => ?_) (fun hb2 => ?_)
   ·have hq : (Txt.item pb (-1) == (⟨#[d]⟩ : Str)) = true := ((Bool.and_eq_true _ _).mp ((Bool.and_eq_true _ _).mp hb2).2).1
    exact Bd.brk fun s S => ⟨updM m3 (Str.ofString "prevpart") (sv pb), l6, ⟨i, _, hl6, hsx, e3, e5, hi1, hi2, hbrk (by rw [hh, hq, Bool.or_true])⟩, S⟩
   ·have hq : (Txt.item pb (-1) == (⟨#[d]⟩ : Str)) = false := by
     rw [decide_eq_true hlb.1, Bool.true_and, Bool.and_true] at hb2; exact hb2
    exact Bd.fall (Bd.nil fun s S => ⟨updM m3 (Str.ofString "prevpart") (sv pb), l5, ⟨rfl, e3, e4, hnxt (by rw [hh, hb, hq]; rfl)⟩, S.perm hp6.symm⟩)
end
end
example : True := by
 k_with_none
 trivial
section
section
variable {c : Cx} {m : Fm} {l : Led} {a b e : Expr} {pos : Pos} {rest : List Stmt} {P : Flow -> Shared -> Prop} {y : Str}
theorem q7l : ∀ {vs : List Value} {ys : List Str}, StrsAre vs ys -> vs.map eV = ys.map sv
 | _, _, .nil => rfl
 | _, _, .cons n t r => by rw [List.map_cons, List.map_cons, q7l r]; rfl
theorem Ev.add0 (ha : Ev c m l a (sv "")) (hb : Ev c m l b (sv y)) : Ev c m l (.BinOp a .Add b pos) (sv y) := by
 intro Q E s S h
 refine wpAny_BinOp (ha _ _ s S fun va s1 ea S1 => hb _ _ s1 S1 fun vb s2 eb S2 => ?_)
 (refine E_e (q0i ea) fun t z1z => ?_; subst z1z)
 (refine E_e (q0i eb) fun u z1z => ?_; subst z1z)
 exact qbb (h _ _ rfl S2)
theorem EvG.resplit {cs : List (List Nat × List Nat)} {pl : Sem Bool} {ap : Pos} {t0 t1 : Tok} (ok : c.OkG) (ha : Ev c m l a (.ref 92)) (hb : Ev c m l b (sv (strL (q02 cs)))) (hp : (Mine.hd.heap_1 c.w.params).lookup 92 = some (q70 t0 t1)) (hcd : (Mine.hd.heap_1 c.w.params).lookup 91 = some q5v) (hg : GoodC cs) (hne : cs ≠ []) (hsz : (q02 cs).length < 100000)
  (hc : eval (.Call (.Attribute a "split" ap) [b] [] pos) c.env = (do let ov <- eval a c.env; standAt ap.atName; let (f, first) <- holding [ov] (getMethod ov "split" pl); callWith pos f first (backTo pos (starEach [b] c.env)) [])) (hs : starEach [b] c.env = (false, eval b c.env) :: starEach [] c.env) :
  EvG c m l (.Call (.Attribute a "split" ap) [b] [] pos) (NewO l (lsO ((q3k [] cs).map sv))) := by
 intro Q E s S h
 refine MethodCall_ (ha _ _ s S fun va s1 ea S1 => ?_) hc
 obtain rfl := q04 ea
 have F : ∃ m', Fr c.h₀ c.L s1.heap m' := by (refine q07 S1 fun m' led' F _ => ?_; (try clear S1)); exact ⟨m', F⟩
 obtain ⟨m', F⟩ := F
 refine q9h F ok.X hp ?_
 refine PyProof.Rows.callWith_method1 (args_cons (hb _ _ s1 S1 fun vb s3 eb S3 => args_nil ?_) hs) hs rfl
 (refine E_e (q0i eb) fun t z1z => ?_; subst z1z)
 clear F m'
 (refine q00 S3 fun m' led' F hm' N hl hn hg' => ?_; (try clear S3))
 refine qew F ok.X N hp hcd hg hne hsz rfl fun D vs h' k hv F' N' l1 => h _ _ _ ⟨D, rfl, rfl⟩ ⟨m', _, F', hm', N', ?_, q0d hl hn l1, hg'⟩
 rw [List.map_cons, hl, eP, q18 (q7l hv)]
theorem EvG.pop0 {D : Addr} {v : Value} {vs : List Value} {i : Nat} {pl : Sem Bool} {ap : Pos} (ha : Ev c m l a (.ref D)) (hb : Ev c m l b (vI 0)) (hi : l[i]? = some (D, lsO (v :: vs))) (hz : vs.length <= 1000)
  (hc : eval (.Call (.Attribute a "pop" ap) [b] [] pos) c.env = (do let ov <- eval a c.env; standAt ap.atName; let (f, first) <- holding [ov] (getMethod ov "pop" pl); callWith pos f first (backTo pos (starEach [b] c.env)) [])) (hs : starEach [b] c.env = (false, eval b c.env) :: starEach [] c.env) :
  EvG c m l (.Call (.Attribute a "pop" ap) [b] [] pos) (fun w l' => w = v /\ l' = l.set i (D, lsO vs)) := by
 intro Q E s S h
 refine MethodCall_ (ha _ _ s S fun va s1 ea S1 => ?_) hc
 obtain rfl := q04 ea
 have S2 := S1
 (refine q0g S1 fun m' led' F hm' N hl _ => ?_; (try clear S1))
 (refine E_ea (q03 hl hi) fun o' h2 h3 => ?_)
 (refine q07 (q0b h3) fun its n z1z h4 => ?_; subst z1z)
 refine listMethod_K N (List.mem_of_getElem? h2) PySem.F.slot_list_pop PySem.F.type_list_pop ?_
 refine PyProof.Rows.callWith_method1 (args_cons (hb _ _ s1 S2 fun vb s3 eb S3 => args_nil ?_) hs) hs rfl
 (refine E_e (q0a eb) fun t z1z => ?_; subst z1z)
 clear F hm' N hl h2 h3 h4
 (refine q00 S3 fun m' led' F hm' N hl hn hg => ?_; (try clear S3))
 (refine E_ea (q03 hl hi) fun o' h2 h3 => ?_)
 (refine q07 (q0b h3) fun its n z1z h4 => ?_; subst z1z)
 (refine q08 (List.map_eq_cons_iff.mp h4) fun v' vs' z1z h5 h6 => ?_; subst z1z)
 refine qc0 F N (q1x h2 (by rw [q0e hl]; exact hn)) (by rw [<- List.length_map (f := eV), h6]; exact Nat.lt_of_le_of_lt hz (by decide)) fun h' F' N' => h _ _ _ ⟨h5, rfl⟩ (SS.upd hm' hl hn hg hi F' N' (q13 h6))
end
end
section
section
variable {c : Cx} {m : Fm} {l led : Led} {a b e : Expr} {pos : Pos} {rest : List Stmt} {P : Flow -> Shared -> Prop} {xa xb : Str}
theorem qce {prog : Program} {w : World} {A : Around} {E : Value -> Shared -> Prop} {s : Shared} {h₀ : Heap} {L x : Addr} {m : Str -> Option Value} {news : List (Addr × Obj)} {vs : List Value} {n : Nat} {Q : List Value -> Shared -> Prop} (F : Fr h₀ L s.heap m) (N : News h₀ L s.heap news) (ha : (x, W.listOf vs.toArray n) ∈ news)
  (hz : vs.length <= 1000) (h : ∀ h', Fr h₀ L h' m -> News h₀ L h' news -> Q vs { s with heap := h' }) : StarOf (model prog w) A E (.ref x) Q s := by
 have hT' : s.TypeIs (.ref x) "list" := ⟨_, (N _ ha).1, rfl⟩
 have z : wpAny (model prog w) A (collect (.ref x)) Q E s := by
  refine wpAny_collect_seq x (.inl rfl) (N _ ha).1 rfl rfl (fun h' hk => h h' ?_ fun p hp => ⟨hk _ _ (N p hp).1, (N p hp).2⟩) (by rw [List.size_toArray]; exact Nat.le_trans hz (by decide))
  (refine q2u (F.ns) fun oL es ep hL r => ?_)
  exact ⟨⟨oL, es, ep, hk _ _ hL, r⟩, fun b x q => hk _ _ (F.keep b x q), F.above⟩
 unfold StarOf notIterableAtAll
 exact wpAny_bind (wpAny_specialOf hT' PySem.F.slot_list_iter.lookup (wpAny_pure ⟨rfl, z⟩))
theorem Bd.forZ {n x1 : Nat} {px py pt p1 p2 p3 p4 p5 : Pos} {body : List Stmt} {vs : List Value} {D : Addr} {f g lst : Expr} {k2 : Nat} {p6 : Pos} (ok : c.Ok) (hf : Ev c m l f (.type "zip")) (hg : Ev c m l g (.builtin "iter")) (hl : Ev c m l lst (.ref D)) (hp : l.Perm ((D, lsO vs) :: led))
  (I : Nat -> Fm -> Led -> Prop) (hxa : c.env.kindOf xa = some .local) (hxb : c.env.kindOf xb = some .local) (hvn : vs.length = 2 * n) (h0 : I 0 m led)
  (turn : ∀ z TI TO it i x y io m1 led1, i < n -> vs[2 * i]? = some x -> vs[2 * i + 1]? = some y -> I i m1 led1 -> Bd c (updM (updM m1 xa x) xb y) (ZL z TI TO it D vs io x y led1) body (fun f s' => (f = .next ∨ f = .cont) /\ ∃ m2 led2, I (i + 1) m2 led2 /\ SS c m2 (ZL z TI TO it D vs io x y led2) s'))
  (done : ∀ m1 led1, I n m1 led1 -> Bd c m1 led1 rest P)
  (hc : eval (.Call f [.Starred (.BinOp (.List [.Call g [lst] [] p1] p2) .Mult (.Constant (.int 2) k2 p6) p3) p4] [] p5) c.env = (do callWith p5 (<- eval f c.env) [] (backTo p5 (starEach [.Starred (.BinOp (.List [.Call g [lst] [] p1] p2) .Mult (.Constant (.int 2) k2 p6) p3) p4] c.env)) (backToKw p5 (keywordEach [] c.env))))
  (hs : starEach [.Starred (.BinOp (.List [.Call g [lst] [] p1] p2) .Mult (.Constant (.int 2) k2 p6) p3) p4] c.env = [(true, eval (.BinOp (.List [.Call g [lst] [] p1] p2) .Mult (.Constant (.int 2) k2 p6) p3) c.env)])
  (hc2 : eval (.Call g [lst] [] p1) c.env = (do callWith p1 (<- eval g c.env) [] (backTo p1 (starEach [lst] c.env)) (backToKw p1 (keywordEach [] c.env)))) (hs2 : starEach [lst] c.env = (false, eval lst c.env) :: starEach [] c.env) (hs3 : starEach [.Call g [lst] [] p1] c.env = (false, eval (.Call g [lst] [] p1) c.env) :: starEach [] c.env)
  (hfs : ∀ v : Value, foldedSetIterable (.Call f [.Starred (.BinOp (.List [.Call g [lst] [] p1] p2) .Mult (.Constant (.int 2) k2 p6) p3) p4] [] p5) c.env v = pure v) :
  Bd c m l (.For (.Tuple [.Name xa px, .Name xb py] x1 pt) (.Call f [.Starred (.BinOp (.List [.Call g [lst] [] p1] p2) .Mult (.Constant (.int 2) k2 p6) p3) p4] [] p5) body [] pos :: rest) P := by
 intro Q E s hE S k
 refine wpAny_execs_cons (wpAny_For (Call_ (hf _ _ s S fun vf s0 ef S0 => ?_) hc) hfs)
 obtain rfl := q44 ef
 refine q7j (e := .BinOp (.List [.Call g [lst] [] p1] p2) .Mult (.Constant (.int 2) k2 p6) p3) (wpAny_BinOp (List_ (args_cons (Call_ (hg _ _ s0 S0 fun vg s1 eg S1 => ?_) hc2) hs3))) hs
 obtain rfl := q0t eg
 refine PyProof.Rows.callWith_builtin1 (args_cons (hl _ _ s1 S1 fun vl s2 el S2 => args_nil ?_) hs2) hs2 rfl
 obtain rfl := q04 el
 have S3 := S2.perm hp
 clear S2
 (refine q00 S3 fun m' led' F hm' N hl' hn hgp => ?_; (try clear S3))
 (refine q08 (q36 hl') fun o' r' z1z e1 hr => ?_; subst z1z)
 (refine q07 (q0b e1) fun vs' kl z1z hv => ?_; subst z1z)
 refine q6k F N (.head _) fun it h' F' N' l1 => args_nil ?_
 refine newList_K (vs := [Value.ref it]) F' N' (fun D1 h4 F4 N4 l4 => wpAny_Constant_int (qeb F4 N4 (.head _) fun D2 h5 F5 N5 l5 => ?_)) (show 1 <= _ by decide)
 refine qce F5 N5 (vs := [.ref it, .ref it]) (.head _) (show 2 <= _ by decide) fun h6 F6 N6 => ⟨trivial, ?_⟩
 refine qhh (l := D) F6 N6 (.tail _ (.tail _ (.head _))) fun h7 z TI TO F7 N7 l7 l8 => ?_
 refine wpAny_pyIter_zip (N7 _ (.head _)).1 ?_
 have lA : ∀ p ∈ (D, W.listOf vs'.toArray kl) :: r', @LT.lt Nat _ p.1 it := l1
 have g1 : ∀ p ∈ ((D, W.listOf vs'.toArray kl) :: r').map (·.1), p ≠ it /\ p ≠ TI /\ p ≠ TO /\ p ≠ z := by
  intro p hp
  (refine E_ea (List.mem_map.mp hp) fun q hq z1z => ?_; subst z1z)
  have h1 := lA q hq
  have h2 := l7 _ (.tail _ (.tail _ (.tail _ hq)))
  exact ⟨Nat.ne_of_lt h1, Nat.ne_of_lt h2, Nat.ne_of_lt (Nat.lt_trans h2 l8.1), Nat.ne_of_lt (Nat.lt_trans (Nat.lt_trans h2 l8.1) l8.2)⟩
 have g2 := l7 _ (.tail _ (.tail _ (.head _)))
 have S : SS c m (ZL z TI TO it D vs (liO D 0) .none .none led) { heap := h7, gens := s2.gens, drawn := s2.drawn, toks := s2.toks + 1, os := s2.os } := by
  refine ⟨m', (z, zipO TI TO .none) :: (TO, q3s .none .none) :: (TI, q3s (.ref it) (.ref it)) :: (it, liO D 0) :: (D, W.listOf vs'.toArray kl) :: r', F7, hm', fun p hp => ?_, ?_, ?_, hgp⟩
  ·refine N7 p ?_
   simp only [List.mem_cons] at hp ⊢
   rcases hp with h | h | h | h | h | h <;> simp only [h, true_or, or_true]
  ·rw [List.map_cons, List.map_cons, List.map_cons, List.map_cons, hl']
   show (z, zipO TI TO .none) :: (TO, eO (q3s .none .none)) :: (TI, eO (q3s (.ref it) (.ref it))) :: (it, liO D 0) :: _ = _
   rw [q1y (vs' := [.none, .none]) rfl, q1y (vs' := [.ref it, .ref it]) rfl]; rfl
  ·have hm : ∀ p ∈ ((D, lsO vs) :: led).map (·.1), p ≠ it /\ p ≠ TI /\ p ≠ TO /\ p ≠ z := by rw [<- q0e hl']; exact g1
   have a1 : @LT.lt Nat _ it TO := Nat.lt_trans g2 l8.1
   show (z :: TO :: TI :: it :: ((D, lsO vs) :: led).map (·.1)).Nodup
   generalize ((D, lsO vs) :: led).map (·.1) = A at hn hm
   refine List.nodup_cons.mpr ⟨?_, List.nodup_cons.mpr ⟨?_, List.nodup_cons.mpr ⟨?_, List.nodup_cons.mpr ⟨fun h => (hm _ h).1 rfl, hn⟩⟩⟩⟩
   ·simp only [List.mem_cons, not_or]
    exact ⟨Nat.ne_of_gt l8.2, Nat.ne_of_gt (Nat.lt_trans l8.1 l8.2), Nat.ne_of_gt (Nat.lt_trans a1 l8.2), fun h => (hm _ h).2.2.2 rfl⟩
   ·simp only [List.mem_cons, not_or]
    exact ⟨Nat.ne_of_gt l8.1, Nat.ne_of_gt a1, fun h => (hm _ h).2.2.1 rfl⟩
   ·simp only [List.mem_cons, not_or]
    exact ⟨Nat.ne_of_gt g2, fun h => (hm _ h).2.1 rfl⟩
 exact qgy ok I hxa hxb hvn (fun i x y io m1 led1 => turn z TI TO it i x y io m1 led1) done hE k h0 ⟨rfl, rfl⟩ S
end
end
example : True := by
 k_with_none
 k_with "omega" => (first | assumption | exact Nat.le_refl _ | exact Nat.ne_of_lt (by assumption) | exact Nat.ne_of_gt (by assumption) | exact Nat.le_of_lt (by assumption) | lia)
 k_with "w boot" => (first | rfl | boot_by_name | decide)
 k_with "w ev" => (first
 | ((with_reducible show Ev _ _ _ (Expr.Constant (Const.int _) _ _) _); exact Ev.int)
 | ((with_reducible show Ev _ _ _ (Expr.Name _ _) _); first
  | exact Ev.name (by assumption) (by rfl) (by rfl) (by first | rfl | assumption)
  | exact Ev.free (by assumption) (by rfl) (by rfl) (by rfl) (by rfl) (by assumption) (by rfl)
  | exact Ev.cellv (by assumption) (by rfl) (by rfl) (by rfl) (by assumption) (by rfl)
  | exact Ev.builtin (by assumption) (by rfl) (by rfl) (by k_is) (by wtm_at "boot") (by decide) (by rfl)
  | exact Ev.globalE (by assumption) (by rfl) (by rfl) (by k_is) (by rfl))
 | ((with_reducible show Ev _ _ _ (Expr.BinOp _ Operator.Add _ _) _); exact Ev.add (by wtm_at "ev") (by wtm_at "ev"))
 | ((with_reducible show Ev _ _ _ (Expr.BinOp _ Operator.Sub _ _) _); exact Ev.sub (by wtm_at "ev") (by wtm_at "ev"))
 | ((with_reducible show Ev _ _ _ (Expr.BinOp _ Operator.Mod _ _) _); exact Ev.mod (by wtm_at "ev") (by wtm_at "ev") (by decide))
 | ((with_reducible show Ev _ _ _ (Expr.BinOp _ Operator.FloorDiv _ _) _); exact Ev.fdiv (by wtm_at "ev") (by wtm_at "ev") (by decide) (by exact PyProof.noPylong_of_log2 (by decide +kernel)))
 | ((with_reducible show Ev _ _ _ (Expr.BinOp _ Operator.RShift _ _) _); exact Ev.shr (by wtm_at "ev") (by wtm_at "ev") (by first | decide | omega))
 | ((with_reducible show Ev _ _ _ (Expr.BinOp _ Operator.LShift _ _) _); exact Ev.shl (by wtm_at "ev") (by wtm_at "ev") (by first | decide | omega) (by wtm_at "bits"))
 | ((with_reducible show Ev _ _ _ (Expr.BinOp _ Operator.BitXor _ _) _); exact Ev.xor (by wtm_at "ev") (by wtm_at "ev"))
 | ((with_reducible show Ev _ _ _ (Expr.BinOp _ Operator.Mult _ _) _); exact Ev.mul (by wtm_at "ev") (by wtm_at "ev") (by wtm_at "mul"))
 | ((with_reducible show Ev _ _ _ (Expr.UnaryOp UnaryOp.USub _ _) _); exact Ev.neg (by wtm_at "ev"))
 | ((with_reducible show Ev _ _ _ (Expr.Compare _ [CmpOp.Lt] _ _) _); exact Ev.lt (by wtm_at "ev") (by wtm_at "ev") (by rfl))
 | ((with_reducible show Ev _ _ _ (Expr.Subscript _ _ _) _); exact Ev.item (by wtm_at "ev") (by wtm_at "ev") (by wtm_at "at") (by omega) (by omega) (by assumption) (by intro u; rfl))
 | ((with_reducible show Ev _ _ _ (Expr.Call _ _ _ _) _); exact Ev.len (by wtm_at "ev") (by wtm_at "ev") (by wtm_at "at") (by wtm_at "sz") (by rfl) (by rfl)))
 k_with "w tb" => (first
 | ((with_reducible show Tb _ _ _ (Expr.Compare _ [CmpOp.Lt] _ _) _); exact Tb.lt (by wtm_at "ev") (by wtm_at "ev") (by rfl))
 | ((with_reducible show Tb _ _ _ (Expr.Compare _ [CmpOp.LtE] _ _) _); exact Tb.le (by wtm_at "ev") (by wtm_at "ev") (by rfl))
 | ((with_reducible show Tb _ _ _ (Expr.Compare _ [CmpOp.Eq] _ _) _); exact Tb.eq (by wtm_at "ev") (by wtm_at "ev") (by rfl))
 | ((with_reducible show Tb _ _ _ (Expr.Compare _ [CmpOp.Gt] _ _) _); exact Tb.gt (by wtm_at "ev") (by wtm_at "ev") (by rfl))
 | ((with_reducible show Tb _ _ _ (Expr.Compare _ [CmpOp.In] _ _) _); exact Tb.inn (by wtm_at "ev") (by wtm_at "eva") (by rfl) (by decide) (by rfl))
 | ((with_reducible show Tb _ _ _ (Expr.UnaryOp UnaryOp.Not _ _) _); exact Tb.not (by wtm_at "tb"))
 | ((with_reducible show Tb _ _ _ (Expr.BoolOp BoolOp.And _ _) _); exact Tb.and (by wtm_at "tba"))
 | ((with_reducible show Tb _ _ _ (Expr.Name _ _) _); exact Tb.bool (by wtm_at "ev") (by rfl)))
 k_with "w tba" => (first
 | ((with_reducible show TbA _ _ _ (_ :: _) _); exact TbA.cons (by wtm_at "tb") (by wtm_at "tba"))
 | ((with_reducible show TbA _ _ _ [] _); exact TbA.nil))
 k_with "w eva" => (first
 | ((with_reducible show EvA _ _ _ [] _); exact EvA.nil)
 | ((with_reducible show EvA _ _ _ (_ :: _) _); exact EvA.cons (by rfl) (by wtm_at "ev") (by wtm_at "eva")))
 k_with "w at" => (first | with_reducible assumption | with_reducible exact q3e | with_reducible exact q06 (by wtm_at "at") | with_reducible exact q0f (by wtm_at "at"))
 k_with "w sz" => ((simp only [List.length_map, List.length_replicate]; omega))
 k_with "w bits" => (exact kbm_shl (m := 64) (intBits_le_64 (by omega) (by omega)) (by omega) (by decide))
 k_with "w mul" => (first | exact IntMulOk.of_left (intBits_le_64 (by omega) (by omega)) | exact IntMulOk.of_right (intBits_le_64 (by omega) (by omega)))
 trivial
section
section
variable {c : Cx} {m : Fm} {l ex : Led} {F : FX} {σ : FZ}
theorem FL.adds (h : FL F σ ex l) : ∀ g : Led, ∃ l2, FL F σ (g ++ ex) l2 /\ (g ++ l).Perm l2
 | [] => ⟨l, h, .refl _⟩
 | p :: g => by
  (refine E_ea (h.adds g) fun l2 h2 hp => ?_)
  (refine E_ea (h2.add p) fun l3 h3 hp3 => ?_)
  exact ⟨l3, h3, (hp.cons p).trans hp3⟩
theorem FL.perm {ex' : Led} (h : FL F σ ex l) (hp : ex.Perm ex') : ∃ l2, FL F σ ex' l2 /\ l.Perm l2 := by
 (refine q09 h fun dz pa pb h1 h2 h3 z1z => ?_; (try clear h); subst z1z)
 exact ⟨_, ⟨dz, pa, pb, h1, h2, h3, rfl⟩, ((((((hp.cons _).cons _).cons _).cons _).cons _).cons _).cons _⟩
theorem FL.off {g r : Led} (h : FL F σ (r ++ (g ++ ex)) l) : ∃ l2, FL F σ (r ++ ex) l2 /\ l.Perm (g ++ l2) := by
 (refine q09 h fun dz pa pb h1 h2 h3 z1z => ?_; (try clear h); subst z1z)
 refine ⟨_, ⟨dz, pa, pb, h1, h2, h3, rfl⟩, ?_⟩
 exact (((((((List.perm_append_comm_assoc r g ex).cons _).cons _).cons _).cons _).cons _).cons _).cons _ |>.trans (List.perm_append_comm_assoc [_, _, _, _, _, _, _] g (r ++ ex))
theorem q4y {Wd : Int} {sp : Str} {st : FS} {q : Str × Str} : (q1m Wd sp st q).rows.length <= st.rows.length + 1 := by
 unfold q1m
 split
 ·split
  ·rw [List.length_append]; exact Nat.le_refl _
  ·split
   ·rw [List.length_append]; exact Nat.le_refl _
   ·exact Nat.le_succ _
 ·exact Nat.le_succ _
theorem qgl {z TI TO it l1 : Addr} {vs : List Value} {io : Obj} {x y : Value} {led : Led} : ZL z TI TO it l1 vs io x y led = [(z, zipO TI TO .none), (TO, tpO [x, y]), (TI, tpO [.ref it, .ref it]), (it, io), (l1, lsO vs)] ++ led := rfl
noncomputable def SpI (F : FX) (sz : Int) (cs : List (List Nat × List Nat)) (ex : Led) (i : Nat) (m1 : Fm) (l1 : Led) : Prop :=
 m1 (Str.ofString "self") = some (.ref F.fo) /\ (fsAt F.Wd F.sp sz cs i).rows.length <= i /\ ∃ r its1, FL F ⟨its1, (fsAt F.Wd F.sp sz cs i).rows.map sv, (fsAt F.Wd F.sp sz cs i).sz⟩ (r ++ ex) l1 /\ ChE r its1 (fsAt F.Wd F.sp sz cs i).chs /\ its1.length <= i
theorem qgf {cs : List (List Nat × List Nat)} {v3 : Value} {t0 t1 : Tok} (ok : c.OkG) (bare : c.Bare) (hF : F.Ok) (hsp : F.sp.cps.all (· < 128) = true) (hl : FL F σ ex l) (h0 : σ.its = [] /\ σ.lines = []) (hp92 : (Mine.hd.heap_1 c.w.params).lookup 92 = some (q70 t0 t1)) (hp91 : (Mine.hd.heap_1 c.w.params).lookup 91 = some q5v)
  (hg : GoodC cs) (hne : cs ≠ []) (hlt : (q02 cs).length < 100) (hasc : ∀ a ∈ q02 cs, a < 128) (hsz : 0 <= σ.sz /\ σ.sz < 100) (hd : c.dp + 300 < recursionLimit) (hu : c.un + 4000 < cLine) :
  Cl c m l (.ref 155) [.ref F.fo, sv "", sv (strL (q02 cs)), v3] (fun v l' => v = .none /\ ∃ r its', FL F ⟨its', (fsAt F.Wd F.sp σ.sz cs cs.length).rows.map sv, (fsAt F.Wd F.sp σ.sz cs cs.length).sz⟩ (r ++ ex) l' /\ ChE r its' (fsAt F.Wd F.sp σ.sz cs cs.length).chs /\ its'.length <= cs.length) := by
 refine' Cl.dfnD [Str.ofString "self", Str.ofString "fws", Str.ofString "string", Str.ofString "splitchars"] [] ok ?ho ?hcd ?hroom ?hbind ?hloc ?z1 ?z2 ?z3 ?z4 ?h
 case ho => k_is
 case hcd => k_is
 case hroom => exact room (j := 0) hd (by decide)
 case hbind =>
  intro s vs' _ hl
  (refine qbx (ex4 hl) fun v1 v2 v3 v4 z1z => ?_; subst z1z)
  exact BindsTo.of_eq rfl
 case hloc => rfl
 case z1 => rfl
 case z2 => rfl
 case z3 => rfl
 case z4 => decide
 case h =>
 intro L' g okc hlt2
 have hd1 : c.dp + 1 + 299 < recursionLimit := hd
 have hu1 : c.un + 3 + 3900 < cLine := Nat.lt_of_le_of_lt (by rw [Nat.add_assoc]; exact Nat.add_le_add_left (by decide) _) hu
 have hcl := qdx hg
 have hpl := q9m cs
 have hpl2 : ((q1g cs).map sv).length = 2 * cs.length := by rw [List.length_map]; exact hpl
 refine Bd.assignG okc (EvG.resplit okc.toOkG (by wtm_at "ev") (Ev.add0 (by wtm_at "ev") (by wtm_at "ev")) hp92 hp91 hg hne (Nat.lt_trans hlt (by decide)) (by with_unfolding_all rfl) rfl) (fun v l2 hv => ?_) rfl rfl
 (refine E_ea hv fun D z1z z2z => ?_; (try clear hv); subst z1z; subst z2z)
 rw [q64]
 refine Bd.iteJ (fun m2 l2 => l2 = (D, lsO ((q1g cs).map sv)) :: l /\ m2 (Str.ofString "self") = some (.ref F.fo) /\ m2 (Str.ofString "parts") = some (.ref D)) (Tb.str (y := strL []) (Ev.item (i := 0) (vs := (strL [] :: q1g cs).map sv) (by wtm_at "ev") (by wtm_at "ev") rfl (by decide) (by decide) rfl (by intro u; rfl)) (by decide) rfl) (fun hb => by cases hb) (fun _ => ?_) ?_
 ·refine Bd.expr (EvG.pop0 (i := 0) (v := sv (strL [])) (vs := (q1g cs).map sv) (by wtm_at "ev") (by wtm_at "ev") rfl (by rw [hpl2]; exact o156 hlt hcl) (by with_unfolding_all rfl) rfl) (fun v l2 hv => ?_) rfl rfl
  (refine E_a hv fun z1z z2z => ?_; (try clear hv); (try clear z1z); subst z2z)
  exact Bd.nil fun s S => ⟨rfl, updM _ (Str.ofString "parts") (.ref D), (D, lsO ((q1g cs).map sv)) :: l, ⟨rfl, rfl, rfl⟩, S⟩
 (intro m2; intro _; intro z1y; refine E_aa z1y fun z2z g1 g2 => ?_; (try clear z1y); subst z2z)
 refine' Bd.forZ (n := cs.length) (D := D) (vs := (q1g cs).map sv) (led := l) okc ?a1 ?a2 ?a3 (.refl _) (SpI F σ.sz cs ex) ?a4 ?a5 hpl2 ?a6 ?turn ?done ?b1 ?b2 ?b3 ?b4 ?b5 ?b6
 case a1 => wtm_at "ev"
 case a2 => wtm_at "ev"
 case a3 => exact Ev.name okc rfl rfl g2
 case a4 => rfl
 case a5 => rfl
 case a6 =>
  refine ⟨g1, Nat.le_refl _, [], [], ?_, trivial, Nat.le_refl _⟩
  (refine E_a h0 fun i1 i2 => ?_; (try clear h0))
  obtain ⟨its0, lines0, sz0⟩ := σ
  obtain rfl : its0 = [] := i1
  obtain rfl : lines0 = [] := i2
  exact hl
 case b1 => with_unfolding_all rfl
 case b2 => rfl
 case b3 => rfl
 case b4 => rfl
 case b5 => rfl
 case b6 => intro v; rfl
 case done =>
  (intro m1; intro l1; intro z1y; refine q8t z1y fun e1 hr r its1 hl1 hC hn => ?_; (try clear z1y))
  exact Bd.nil fun s S => ⟨_, _, S, rfl, r, its1, hl1, hC, hn⟩
 case turn =>
  (intro z; intro TI; intro TO; intro it; intro i; intro x; intro y; intro io; intro m1; intro l1; intro hi; intro hx; intro hy; intro z1y; refine q8t z1y fun e1 hr r its1 hl1 hC hn => ?_; (try clear z1y))
  (refine E_e (⟨_, List.getElem?_eq_getElem hi⟩ : ∃ q, cs[i]? = some q) fun q hq => ?_)
  (refine E_a (q96 hq) fun hp1 hp2 => ?_)
  rw [List.getElem?_map, hp1] at hx
  rw [List.getElem?_map, hp2] at hy
  obtain rfl := Option.some.inj hx
  obtain rfl := Option.some.inj hy
  have hqm : q ∈ cs := List.mem_of_getElem? hq
  (refine E_aa (q3z (Wd := F.Wd) (sp := F.sp) (sz := σ.sz) (cs := cs) i (Nat.le_of_lt hi)) fun iv1 iv2 iv3 => ?_)
  have hcl3 : csum ((cs.take i).map strC) + q0l (strC q) <= ((q02 cs).length : Int) := by
   rw [<- q4o cs, <- q41, show (cs.take i).map strC ++ [strC q] = (cs.map strC).take (i + 1) by rw [List.take_add_one, <- List.map_take, List.getElem?_map, hq]; rfl]
   exact q66 _ _
  have hszi : 0 <= (fsAt F.Wd F.sp σ.sz cs i).sz /\ (fsAt F.Wd F.sp σ.sz cs i).sz < 100 := by
   rcases iv3 with e | e <;> rw [e]
   ·exact hsz
   ·exact ⟨Int.le_refl _, by decide⟩
  have hstep : fsAt F.Wd F.sp σ.sz cs (i + 1) = q1m F.Wd F.sp ⟨(fsAt F.Wd F.sp σ.sz cs i).rows, (fsAt F.Wd F.sp σ.sz cs i).chs, (fsAt F.Wd F.sp σ.sz cs i).sz⟩ (strL q.1, strL q.2) := q2w hq
  have hall : ∀ d ∈ (fsAt F.Wd F.sp σ.sz cs i).chs ++ [(strL q.1, strL q.2)], ((0 < d.1.length /\ d.1.length < 1000) /\ 0 < d.2.length /\ d.2.length < 1000) /\ PyData.strOk d.1 = true /\ PyData.strOk d.2 = true := by
   intro d hd
   (refine E_ea (by
    rcases List.mem_append.mp hd with h | h
    ·exact iv1 d h
    ·exact ⟨q, hqm, List.mem_singleton.mp h⟩ : ∃ c' ∈ cs, d = strC c') fun c' hc' z1z => ?_; subst z1z)
   (refine q2e (hg c' hc') fun a1 a2 a3 a4 => ?_)
   (refine E_aa (q2v hc') fun b1 b2 b3 => ?_)
   have e1 := List.length_pos_iff.mpr a1
   have e2 := List.length_pos_iff.mpr a3
   refine ⟨?_, q23 fun a ha => hasc a (b1 a ha), q23 fun a ha => hasc a (b2 a ha)⟩
   show (0 < c'.1.toArray.size /\ c'.1.toArray.size < 1000) /\ 0 < c'.2.toArray.size /\ c'.2.toArray.size < 1000
   simp only [List.size_toArray]
   exact o240 hlt b3 e1 e2
  have hbound : 0 <= (fsAt F.Wd F.sp σ.sz cs i).sz /\ (fsAt F.Wd F.sp σ.sz cs i).sz + csum (fsAt F.Wd F.sp σ.sz cs i).chs + q0l (strL q.1, strL q.2) < 100000 := by
   have hcl5 : csum ((cs.take i).map strC) + q0l (strL q.1, strL q.2) <= ((q02 cs).length : Int) := hcl3
   exact ⟨hszi.1, by exact o418 hlt iv2 hszi hcl5⟩
  have hi300 : i <= 300 := by exact o228 hlt hcl hi
  clear hcl3 iv1 iv2 iv3 hx hy hp1 hp2
  rw [qgl]
  generalize hgl : [(z, zipO TI TO .none), (TO, tpO [sv (strL q.1), sv (strL q.2)]), (TI, tpO [.ref it, .ref it]), (it, io), (D, lsO ((q1g cs).map sv))] = gl
  (refine E_ea (hl1.adds gl) fun l2 hl2 hp2 => ?_)
  refine Bd.perm hp2 ?_
  (refine E_ea (hl2.perm (List.perm_append_comm_assoc gl r ex)) fun l3 hl3 hp3 => ?_)
  refine Bd.perm hp3 ?_
  refine Bd.expr (EvG.fmtM okc.toOkG hF hl3 (Ev.name okc rfl rfl e1) (by k_is) (by k_is) (by k_is) (by k_is) (fun K => ⟨_, _, rfl, rfl⟩) (EvA.cons rfl (Ev.name okc rfl rfl rfl) (EvA.cons rfl (Ev.name okc rfl rfl rfl) EvA.nil)) (qez (ex0 := r) okc.toOkG bare hF hsp hl3 (fun p hp => List.mem_append_left _ hp) hC rfl (Nat.le_trans hn hi300) (Nat.le_trans hr hi300) hbound hall (room hd1 (by decide)) (units hu1 (by decide))) rfl rfl) (fun v l4 hv => Bd.nil fun s S => ?_) rfl rfl
  (refine q84 hv fun z1z r2 its2 hl4 hC2 hn2 => ?_; (try clear hv); (try clear z1z))
  rw [<- hstep] at hl4 hC2
  rw [<- List.append_assoc] at hl4
  (refine E_ea (hl4.off) fun l5 hl5 hp5 => ?_)
  refine ⟨.inl rfl, updM (updM m1 (Str.ofString "fws") (sv (strL q.1))) (Str.ofString "part") (sv (strL q.2)), l5, ⟨e1, ?_, r2 ++ r, its2, hl5, hC2, Nat.le_trans hn2 (Nat.add_le_add_right hn 1)⟩, S.perm (by rw [qgl, hgl]; exact hp5)⟩
  rw [hstep]; exact Nat.le_trans q4y (Nat.add_le_add_right hr 1)
end
end
section
section
variable {c : Cx} {m : Fm} {l ex : Led} {F : FX} {σ : FZ} {a b e : Expr} {pos : Pos}
theorem q5z : ∀ {vs : List Value} {ys : List Str}, vs.map eV = ys.map sv -> StrsAre vs ys
 | [], [], _ => .nil
 | [], _ :: _, h => by cases h
 | _ :: _, [], h => by cases h
 | v :: vs, y :: ys, h => by
  rw [List.map_cons, List.map_cons, List.cons.injEq] at h
  (refine E_e (q0i h.1) fun t z1z => ?_; subst z1z)
  exact .cons _ _ (q5z h.2)
theorem Ev.join {D : Addr} {i : Nat} {sep : Str} {ls : List Str} {pl : Sem Bool} {ap : Pos} (ha : Ev c m l a (sv sep)) (hb : Ev c m l b (.ref D)) (hi : l[i]? = some (D, lsO (ls.map sv))) (hz : ls.length < 600) (hsep : sep.length <= 16) (hsum : (ls.map (·.length)).sum <= 10000)
  (hc : eval (.Call (.Attribute a "join" ap) [b] [] pos) c.env = (do let ov <- eval a c.env; standAt ap.atName; let (f, first) <- holding [ov] (getMethod ov "join" pl); callWith pos f first (backTo pos (starEach [b] c.env)) [])) (hs : starEach [b] c.env = (false, eval b c.env) :: starEach [] c.env) :
  Ev c m l (.Call (.Attribute a "join" ap) [b] [] pos) (sv (Txt.join sep ls)) := by
 intro Q E s S h
 refine MethodCall_ (ha _ _ s S fun va s1 ea S1 => ?_) hc
 (refine E_e (q0i ea) fun t z1z => ?_; subst z1z)
 refine q14 PySem.F.slot_str_join PySem.F.type_str_join ?_
 refine PyProof.Rows.callWith_method1 (args_cons (hb _ _ s1 S1 fun vb s3 eb S3 => args_nil ?_) hs) hs rfl
 obtain rfl := q04 eb
 (refine E_ea (S3.list hi) fun its hL hit => ?_)
 have S4 := S3
 (refine q00 S3 fun m' led' F' hm' N hl hn hg => ?_; (try clear S3))
 exact join_listW hL (by rw [List.toList_toArray]; exact q5z hit) hsep (Nat.le_trans (Nat.add_le_add hsum (Nat.le_of_lt hz)) (by decide)) fun t' k => h _ _ rfl ⟨m', led', F', hm', N, hl, hn, hg⟩
theorem qh6 {sep : Str} {ls : List Str} {chs : List (Str × Str)} (ok : c.OkG) (bare : c.Bare) (hF : F.Ok) (hl : FL F σ ex l) (hC : ChE ex σ.its chs) (hL : σ.lines = ls.map sv) (hz : σ.its.length <= 500) (hln : ls.length <= 500) (hsz : 0 <= σ.sz /\ σ.sz + csum chs < 100000) (hok : ∀ q ∈ chs, PyData.strOk q.1 = true /\ PyData.strOk q.2 = true /\ q.2 ≠ Str.ofString "")
  (hp : chs ≠ [] ∨ 0 < σ.sz) (hws : σ.sz = 0 -> Txt.isspace (q0m chs) = false) (hsep : sep.length <= 16) (hsum : ((ls ++ [q0m chs]).map (·.length)).sum <= 10000) (hd : c.dp + 100 < recursionLimit) (hu : c.un + 2000 < cLine) :
  Cl c m l (.ref 113) [.ref F.fo, sv sep] (fun v l' => v = sv (Txt.join sep (ls ++ [q0m chs])) /\ FL F ⟨[], (ls ++ [q0m chs]).map sv, 0⟩ ex l') := by
 refine' Cl.dfnD [Str.ofString "self", Str.ofString "linesep"] [] ok ?ho ?hcd ?hroom ?hbind ?hloc ?z1 ?z2 ?z3 ?z4 ?h
 case ho => k_is
 case hcd => k_is
 case hroom => exact room (j := 0) hd (by decide)
 case hbind =>
  intro s vs' _ hl
  (refine E_ee (ex2 hl) fun v1 v2 z1z => ?_; subst z1z)
  exact BindsTo.of_eq rfl
 case hloc => rfl
 case z1 => rfl
 case z2 => rfl
 case z3 => rfl
 case z4 => decide
 case h =>
 intro L' g okc hlt2
 have hd1 : c.dp + 1 + 99 < recursionLimit := hd
 have hu1 : c.un + 3 + 1900 < cLine := Nat.lt_of_le_of_lt (by rw [Nat.add_assoc]; exact Nat.add_le_add_left (by decide) _) hu
 refine Bd.expr (EvG.fmtM okc.toOkG hF hl (by wtm_at "ev") (by k_is) (by k_is) (by k_is) (by k_is) (fun K => ⟨_, _, rfl, rfl⟩) EvA.nil (q8u okc.toOkG bare hF hl hC hz (by rw [hL, List.length_map]; exact hln) hsz hok hp hws (room hd1 (by decide)) (units hu1 (by decide))) rfl rfl) (fun v l2 hv => ?_) rfl rfl
 (refine E_a hv fun z1z hl2 => ?_; (try clear hv); (try clear z1z))
 have e : σ.lines ++ [sv (q0m chs)] = (ls ++ [q0m chs]).map sv := by rw [hL, List.map_append]; rfl
 rw [show (Value.str (q0m chs) 0) = sv (q0m chs) from rfl, e] at hl2
 have hD : l2[4]? = some (F.ll, lsO ((ls ++ [q0m chs]).map sv)) := by (refine q09 hl2 fun dz pa pb h1 h2 h3 z1z => ?_; (try clear hl2); subst z1z); rfl
 refine Bd.ret (Ev.g (Ev.join (by wtm_at "ev") (Ev.lines okc.toOkG hF hl2 (by wtm_at "ev") (by with_unfolding_all rfl)) hD (by rw [List.length_append]; exact Nat.lt_of_le_of_lt (Nat.add_le_add_right hln 1) (by decide)) hsep hsum (by with_unfolding_all rfl) rfl)) ?_
 (intro v; intro l3; intro s; intro z1y; refine E_a z1y fun hv z2z => ?_; (try clear z1y); subst z2z; intro S)
 exact ⟨_, _, S, hv, hl2⟩
theorem fmtH {hd0 wd0 : Int} {sp0 : Str} {led : Led} {pa pb : Array Value} (ok : c.OkG) (h2 : TabG q8e pa) (h3 : TabG q8w pb) (hd : c.dp + 60 < recursionLimit) (hu : c.un + 800 < cLine) :
  Cl c m ((211, tabObj pa) :: (218, tabObj pb) :: led) (.ref 165) [vI hd0, vI wd0, sv (Str.ofString " "), sv sp0] (fun v l' => ∃ F : FX, v = .ref F.fo /\ F.Ok /\ F.Wd = wd0 /\ F.sp = sp0 /\ FL F ⟨[], [], hd0⟩ led l') := by
 intro vs' Q E s S hv k
 (refine qbx (ex4 ((List.length_map (f := eV) ▸ congrArg List.length hv : vs'.length = 4))) fun v1 v2 v3 v4 z1z => ?_; subst z1z)
 simp only [List.map_cons, List.map_nil, List.cons.injEq, and_true] at hv
 (refine E_e (q0a hv.1) fun t1 z1z => ?_; subst z1z)
 (refine E_e (q0a hv.2.1) fun t2 z1z => ?_; subst z1z)
 (refine E_e (q0i hv.2.2.1) fun t3 z1z => ?_; subst z1z)
 (refine E_e (q0i hv.2.2.2) fun t4 z1z => ?_; subst z1z)
 (refine q08 (ok.B) fun A₀ base B C1 C2 => ?_)
 (refine q0y (ok.T) fun p loose mean mg mb T => ?_)
 (refine q00 S fun m' led' F' hm' N hl hn hg => ?_; (try clear S))
 (refine E_ea (q03 (i := 1) hl rfl) fun o1 g1 g2 => ?_)
 refine qfm B F' ok.X N T ok.K (List.mem_of_getElem? g1) hd hu fun h' tk' fo fd ll a1 dx K ep nl hs1 ts tz F2 N2 hlt ho => ?_
 (refine q2r ho fun o1 o2 o3 o4 o5 => ?_; (try clear ho))
 refine k _ _ _ ⟨⟨fo, fd, a1, dx, ll, fmtD K wd0 sp0 ll a1, wd0, sp0⟩, rfl, ⟨K, rfl⟩, rfl, rfl, _, pa, pb, ⟨hs1, ts, tz, rfl⟩, h2, h3, rfl⟩ ⟨m', _, F2, hm', N2, ?_, ?_, hg⟩
 ·rw [List.map_append, hl]
  show (fo, fmtO fd) :: (fd, fmtD K wd0 sp0 ll a1) :: (a1, eO (accO [] ep dx)) :: (dx, dictOf _ 1) :: (ll, eO (W.listOf ([] : List Value).toArray nl)) :: _ = _
  rw [q6y (vs := []) (vs' := []) rfl, q13 (vs := []) (vs' := []) rfl]; rfl
 ·have hA : ∀ p ∈ (((211 : Addr), tabObj pa) :: (218, tabObj pb) :: led).map (·.1), @LT.lt Nat _ p fd := by
   rw [<- q0e hl]
   intro p hp
   (refine E_ea (List.mem_map.mp hp) fun q hq z1z => ?_; subst z1z)
   exact hlt q hq
  show (fo :: fd :: a1 :: dx :: ll :: (((211 : Addr), tabObj pa) :: (218, tabObj pb) :: led).map (·.1)).Nodup
  generalize (((211 : Addr), tabObj pa) :: (218, tabObj pb) :: led).map (·.1) = A at hA hn
  have b1 := Nat.lt_trans o3 o4
  have b2 := Nat.lt_trans b1 o5
  have b3 := Nat.lt_trans o4 o5
  have off : ∀ q, @LT.lt Nat _ fd q -> q ∉ A := fun q h h2 => Nat.lt_asymm h (hA q h2)
  simp only [List.nodup_cons, List.mem_cons, not_or]
  exact ⟨⟨Nat.ne_of_gt o2, Nat.ne_of_lt b2, Nat.ne_of_lt b1, Nat.ne_of_lt o3, off _ o2⟩, ⟨Nat.ne_of_lt (Nat.lt_trans o2 b2), Nat.ne_of_lt (Nat.lt_trans o2 b1), Nat.ne_of_lt (Nat.lt_trans o2 o3), fun h => Nat.lt_irrefl _ (hA _ h)⟩, ⟨Nat.ne_of_gt o5, Nat.ne_of_gt b3, off _ (Nat.lt_trans o2 b2)⟩, ⟨Nat.ne_of_gt o4, off _ (Nat.lt_trans o2 b1)⟩, off _ (Nat.lt_trans o2 o3), hn⟩
end
end
example : True := by
 k_with_none
 trivial
section
section
variable {c : Cx} {m : Fm} {led : Led} {a b e : Expr} {pos : Pos}
theorem Ev.itemN {vs : List Value} {k : Int} {v : Value} (ha : EvG c m led a (NewO led (lsO vs))) (hb : ∀ D, Ev c m ((D, lsO vs) :: led) b (vI k)) (h0 : 0 <= k) (h1 : k < 2 ^ 63) (hv : vs[k.toNat]? = some v)
  (hs : ∀ D u, subscripted b false (.ref D) (.int k u) = operate [.ref D, .int k u] (getItem (.ref D) (.int k u))) : Ev c m led (.Subscript a b pos) v := by
 intro Q E s S h
 refine Subscript_ (ha _ _ s S fun va l s1 ea S1 => ?_)
 (refine E_ea ea fun D hD z1z => ?_; (try clear ea); subst z1z)
 obtain rfl := q04 hD
 refine hb D _ _ s1 S1 fun vb s2 eb S2 => ?_
 (refine E_e (q0a eb) fun u z1z => ?_; subst z1z)
 have S0 := S2.drop
 (refine q0g S2 fun m' led' F hm' N hl _ => ?_; (try clear S2))
 (refine E_ea (q03 (i := 0) hl rfl) fun o' h2 h3 => ?_)
 (refine q07 (q0b h3) fun its n z1z h4 => ?_; subst z1z)
 rw [<- h4, List.getElem?_map, Option.map_eq_some_iff] at hv
 (refine E_ea hv fun v' h5 h6 => ?_; (try clear hv))
 exact q8l (News.isList N (List.mem_of_getElem? h2)) h0 h1 h5 (h _ _ h6 S0) (hs D u)
theorem EvG.joinG {sep : Str} {ls : List Str} {R R' : Value -> Led -> Prop} {pl : Sem Bool} {ap : Pos} (ha : Ev c m led a (sv sep)) (hb : EvG c m led b R) (hR : ∀ v l, R v l -> ∃ (D : Addr) (i : Nat), v = .ref D /\ l[i]? = some (D, lsO (ls.map sv)) /\ R' (sv (Txt.join sep ls)) l) (hz : ls.length < 600) (hsep : sep.length <= 16) (hsum : (ls.map (·.length)).sum <= 10000)
  (hc : eval (.Call (.Attribute a "join" ap) [b] [] pos) c.env = (do let ov <- eval a c.env; standAt ap.atName; let (f, first) <- holding [ov] (getMethod ov "join" pl); callWith pos f first (backTo pos (starEach [b] c.env)) [])) (hs : starEach [b] c.env = (false, eval b c.env) :: starEach [] c.env) :
  EvG c m led (.Call (.Attribute a "join" ap) [b] [] pos) R' := by
 intro Q E s S h
 refine MethodCall_ (ha _ _ s S fun va s1 ea S1 => ?_) hc
 (refine E_e (q0i ea) fun t z1z => ?_; subst z1z)
 refine q14 PySem.F.slot_str_join PySem.F.type_str_join ?_
 refine PyProof.Rows.callWith_method1 (args_cons (hb _ _ s1 S1 fun vb l s3 eb S3 => args_nil ?_) hs) hs rfl
 (refine q08 (hR _ _ eb) fun D i hD hi hR' => ?_)
 obtain rfl := q04 hD
 (refine E_ea (S3.list hi) fun its hL hit => ?_)
 (refine q00 S3 fun m' led' F' hm' N hl hn hg => ?_; (try clear S3))
 exact join_listW hL (by rw [List.toList_toArray]; exact q5z hit) hsep (Nat.le_trans (Nat.add_le_add hsum (Nat.le_of_lt hz)) (by decide)) fun t' k => h _ _ _ hR' ⟨m', led', F', hm', N, hl, hn, hg⟩
theorem EvG.splitS {x y : Str} {rows : List Str} {R : Led -> Prop} {pl : Sem Bool} {ap : Pos} (ha : EvG c m led a (fun v l => v = sv x /\ R l)) (hb : ∀ l, R l -> Ev c m l b (sv y)) (hy : (y.length == 0) = false) (hx : x.length <= 10000) (hr : Txt.split x y = rows)
  (hc : eval (.Call (.Attribute a "split" ap) [b] [] pos) c.env = (do let ov <- eval a c.env; standAt ap.atName; let (f, first) <- holding [ov] (getMethod ov "split" pl); callWith pos f first (backTo pos (starEach [b] c.env)) [])) (hs : starEach [b] c.env = (false, eval b c.env) :: starEach [] c.env) :
  EvG c m led (.Call (.Attribute a "split" ap) [b] [] pos) (fun v l' => ∃ D l, v = .ref D /\ R l /\ l' = (D, lsO (rows.map sv)) :: l) := by
 intro Q E s S h
 refine MethodCall_ (ha _ _ s S fun va l s1 ea S1 => ?_) hc
 (refine E_e (q0i ea.1) fun t z1z => ?_; subst z1z)
 refine q14 PySem.F.slot_str_split PySem.F.type_str_split ?_
 refine PyProof.Rows.callWith_method1 (args_cons (hb l ea.2 _ _ s1 S1 fun vb s3 eb S3 => args_nil ?_) hs) hs rfl
 (refine E_e (q0i eb) fun u z1z => ?_; subst z1z)
 (refine q00 S3 fun m' led' F' hm' N hl hn hg => ?_; (try clear S3))
 refine q9n F' N hy hx hr fun D vs h' tk F2 N2 l1 hS => ?_
 exact h _ _ _ ⟨D, l, rfl, ea.2, rfl⟩ ⟨m', _, F2, hm', N2, by rw [List.map_cons, hl, eP, q18 (q7l hS)], q0d hl hn l1, hg⟩
theorem Ev.chr {x : Int} (hf : Ev c m led e (.builtin "chr")) (ha : Ev c m led a (vI x)) (h0 : 0 <= x) (h1 : x <= 1000)
  (hc : eval (.Call e [a] [] pos) c.env = (do callWith pos (<- eval e c.env) [] (backTo pos (starEach [a] c.env)) (backToKw pos (keywordEach [] c.env)))) (hs : starEach [a] c.env = (false, eval a c.env) :: starEach [] c.env) : Ev c m led (.Call e [a] [] pos) (sv ⟨#[x.toNat]⟩) := by
 intro Q E s S h
 refine Call_ (hf _ _ s S fun vf s0 ef S0 => ?_) hc
 obtain rfl := q0t ef
 refine PyProof.Rows.callWith_builtin1 (args_cons (ha _ _ s0 S0 fun va s1 ea S1 => args_nil ?_) hs) hs rfl
 (refine E_e (q0a ea) fun t z1z => ?_; subst z1z)
 exact chr_of_range h0 (Int.le_trans h1 (by decide)) (h _ _ rfl S1)
theorem Ev.ord {y : Nat} (hf : Ev c m led e (.builtin "ord")) (ha : Ev c m led a (sv ⟨#[y]⟩))
  (hc : eval (.Call e [a] [] pos) c.env = (do callWith pos (<- eval e c.env) [] (backTo pos (starEach [a] c.env)) (backToKw pos (keywordEach [] c.env)))) (hs : starEach [a] c.env = (false, eval a c.env) :: starEach [] c.env) : Ev c m led (.Call e [a] [] pos) (vI y) := by
 intro Q E s S h
 refine Call_ (hf _ _ s S fun vf s0 ef S0 => ?_) hc
 obtain rfl := q0t ef
 refine PyProof.Rows.callWith_builtin1 (args_cons (ha _ _ s0 S0 fun va s1 ea S1 => args_nil ?_) hs) hs rfl
 (refine E_e (q0i ea) fun t z1z => ?_; subst z1z)
 exact ord_of_one (x := ⟨#[y]⟩) rfl (h _ _ rfl S1)
theorem Tb.neS {y z : Str} (ha : Ev c m led a (sv y)) (hb : Ev c m led b (sv z)) (hm : behindInMarks .NotEq b = false) : Tb c m led (.Compare a [.NotEq] [b] pos) (y != z) := by
 intro Q E s S h
 refine wpAny_isTrue_Compare1 (ha _ _ s S fun va s1 ea S1 => hb _ _ s1 S1 fun vb s2 eb S2 => ?_) hm
 (refine E_e (q0i ea) fun t z1z => ?_; subst z1z)
 (refine E_e (q0i eb) fun u z1z => ?_; subst z1z)
 exact PyProof.Rows.ne_str (wpAny_truthy_bool (h _ S2))
theorem EvG.callGA {f : Value} {es : List Expr} {RA : List Value -> Led -> Prop} {R : Value -> Led -> Prop} (ok : c.OkG) (hf : Ev c m led e f) (hfv : ∀ v, eV v = f -> v = f) (hk : keepIn (Mine.hd.heap_1 c.w.params) f = true) (ha : EvGA c m led (a :: es) RA) (hcl : ∀ vs l, RA vs l -> Cl c m l f vs R)
  (hc : eval (.Call e (a :: es) [] pos) c.env = (do callWith pos (<- eval e c.env) [] (backTo pos (starEach (a :: es) c.env)) (backToKw pos (keywordEach [] c.env)))) (hs : starEach (a :: es) c.env = (false, eval a c.env) :: starEach es c.env) (hs2 : ((backTo pos (starEach es c.env)).any fun x => x.fst) = false) : EvG c m led (.Call e (a :: es) [] pos) R := by
 intro Q E s S k
 refine Call_ (hf _ _ s S fun vf s0 ef S0 => ?_) hc
 obtain rfl := hfv _ ef
 have S00 := S0
 (refine q07 S0 fun m' led' F _ => ?_; (try clear S0))
 refine callWith_K (ok.X.keeps F.keep) hk ?_ hs hs2
 refine ha _ _ _ s0 S00 fun vs' l s1 es' S1 => ?_
 have S11 := S1
 (refine q07 S1 fun m1 led1 F1 _ => ?_; (try clear S1))
 refine ⟨ok.X.keeps F1.keep, ?_⟩
 rw [List.nil_append]
 exact hcl _ _ es' _ _ _ s1 S11 rfl k
noncomputable def Cx.exact (c : Cx) (g : Array GenState) (d : Drawn) (o : OsState) : Cx := { c with gp := fun g' d' o' => g' = g /\ d' = d /\ o' = o }
theorem Cl.exact {f : Value} {vs : List Value} {R : Value -> Led -> Prop} (h : ∀ g d o, Cl (c.exact g d o) m led f vs R) : Cl c m led f vs R := by
 (intro vs'; intro Q; intro E; intro s; intro z1y; refine q00 z1y fun m' led' F hm N hl hn hg => ?_; (try clear z1y); intro hv; intro k)
 refine h s.gens s.drawn s.os vs' Q E s ⟨m', led', F, hm, N, hl, hn, rfl, rfl, rfl⟩ hv fun v l s' hr S' => ?_
 (refine q7r S' fun m2 led2 F2 hm2 N2 hl2 hn2 g2 d2 o2 => ?_; (try clear S'))
 exact k v l s' hr ⟨m2, led2, F2, hm2, N2, hl2, hn2, by rw [g2, d2, o2]; exact hg⟩
theorem Cx.Ok.exact (ok : c.Ok) (g d o) : (c.exact g d o).Ok := ⟨⟨ok.B, ok.X, ok.T, ok.K, ok.G⟩, ok.E⟩
theorem Cx.exact_one {g d o} : (c.exact g d o).One := ⟨g, d, o, rfl⟩
end
end
section
section
variable {c : Cx} {m : Fm} {led : Led} {a b e : Expr} {pos p1 p2 : Pos}
theorem qhe {sa : Addr} {vs : List Value} {ns : List Int} (ok : c.OkG) (hT : ∀ p ∈ led, p.2 = tabObj #[]) (hS : c.h₀.IsList sa vs.toArray) (hI : IntsAre vs ns) (hn : ns.length <= 63) (hd : c.dp + 20 < recursionLimit) (hu : c.un + 200 < cLine) : Cl c m led (.ref 260) [.ref sa] (NewO led (lsI (numsOf ns))) := by
 intro vs' Q E s S hv k
 obtain rfl := q33 hv
 (refine q08 (ok.B) fun A₀ base B C1 C2 => ?_)
 (refine q0y (ok.T) fun p loose mean mg mb T => ?_)
 (refine q00 S fun m' led' F' hm' N hl hn' hg => ?_; (try clear S))
 refine qcz B F' ok.X N T ok.K hS hI hn hd hu fun h' tk' la rs nl F2 N2 hR => ?_
 refine k _ _ _ ⟨la, rfl, rfl⟩ ⟨m', _, F2, hm', N2, by rw [List.map_cons, hl, eP, q13 (q2i hR)], List.nodup_cons.mpr ⟨fun h => ?_, hn'⟩, hg⟩
 rw [<- q0e hl] at h
 (refine E_ea (List.mem_map.mp h) fun z1z hq z2z => ?_; obtain ⟨q, o⟩ := z1z; subst z2z)
 have ho := hT _ (by rw [<- hl]; exact List.mem_map_of_mem hq)
 obtain rfl : o = tabObj #[] := q0z (ho : eO o = eO (tabObj #[])) rfl
 exact qgg N2 (.head _) (.tail _ hq) (fun h => by cases h) rfl
theorem qh7 {A₀ : Around} {p : Program} {loose : List Str} {mean : ExcName -> Option Value} {mg mb : Str -> Option Value} {x : Str} {zs : List Int} (hcl : c.cl = []) (hou : c.outer = []) (bare : c.Bare) (X : (Mine.hd.heap_1 c.w.params).In c.h₀) (T : Top p loose mean mg mb c.h₀) (B : Below A₀ c.h₀ [] c.h₀) (hk : c.cs.kind = .function)
  (hx : (x.cps.toList ++ [0]).map Int.ofNat = q01 zs) (hz : ∀ z ∈ zs, 0 <= z /\ z < 262144) (hxl : x.cps.size <= 200) (hzl : zs.length <= 100) (hd : c.dp + 50 < recursionLimit) (hu : c.un + 400 < cLine) : Cl c m led (.ref 289) [sv x] (NewO led (lsI zs)) := by
 intro vs' Q E s S hv k
 (refine E_e (ex1 ((List.length_map (f := eV) ▸ congrArg List.length hv : vs'.length = 1))) fun v z1z => ?_; subst z1z)
 (refine E_e (q0i (List.cons.inj hv).1) fun t z1z => ?_; subst z1z)
 (refine q00 S fun m' led' F' hm' N hl hn' hg => ?_; (try clear S))
 obtain ⟨o, bare⟩ := bare
 rw [show c.A = ktrTop c.dp c.un c.gd c.cn c.cs c.L c.a c.ccd [] [] by rw [<- hcl, <- hou]]
 refine qdl (cl := []) (outer := []) X T B F' X N T hk hx hz hxl hzl hd hu fun s' D its k9 F2 hgs hos N2 hne hI => ?_
 refine k _ _ _ ⟨D, rfl, rfl⟩ ⟨m', _, F2, hm', N2, by rw [List.map_cons, hl, eP, q13 (q2i hI)], List.nodup_cons.mpr ⟨fun h => ?_, hn'⟩, ?_⟩
 ·rw [<- q0e hl] at h
  obtain ⟨q, hq, e⟩ := List.mem_map.mp h
  exact hne q hq e
 ·rw [bare] at hg ⊢
  rw [hgs, hos]
  exact hg
theorem Ev.sum6 {sa : Addr} {vs : List Value} {ns : List Int} (hf : Ev c m led e (.builtin "sum")) (ha : Ev c m led a (.ref sa)) (hb : Ev c m led b (vI 6)) (hS : c.h₀.IsList sa vs.toArray) (hI : IntsAre vs ns) (hn : ns.length <= 63)
  (hc : eval (.Call e [.Subscript a (.Slice Option.none (some b) Option.none p2) p1] [] pos) c.env = (do callWith pos (<- eval e c.env) [] (backTo pos (starEach [.Subscript a (.Slice Option.none (some b) Option.none p2) p1] c.env)) (backToKw pos (keywordEach [] c.env)))) (hs : starEach [.Subscript a (.Slice Option.none (some b) Option.none p2) p1] c.env = (false, eval (.Subscript a (.Slice Option.none (some b) Option.none p2) p1) c.env) :: starEach [] c.env) :
  Ev c m led (.Call e [.Subscript a (.Slice Option.none (some b) Option.none p2) p1] [] pos) (vI (ns.take 6).sum) := by
 intro Q E s S h
 refine Call_ (hf _ _ s S fun vf s0 ef S0 => ?_) hc
 obtain rfl := q0t ef
 refine PyProof.Rows.callWith_builtin1 (args_cons ?_ hs) hs rfl
 refine Subscript_ (ha _ _ s0 S0 fun va s1 ea S1 => ?_)
 obtain rfl := q04 ea
 refine wpAny_Slice (EvP.run (lw := Option.none) (lo := Option.none) trivial S1 fun vl s2 pl S2 => EvP.run (lw := some b) (lo := some 6) hb S2 fun vu s3 pu S3 => wpAny_pure ?_)
 (refine q00 S3 fun m' led' F hm' N hl hn' hg => ?_; (try clear S3))
 have hln := q5l hI
 refine qfl F N (hS.at (F.keep _)) pl pu (by rw [hln]; exact Nat.le_trans hn (by decide)) fun D h' F2 N2 l1 => ?_
 rw [show slicePick _ Option.none (some (6 : Int)) Option.none = _ from q52 5] at N2
 refine args_nil (sumK rfl F2 N2 (News.isList N2 (.head _)) (qaq 6 hI) fun h3 tk t3 F3 N3 => ?_)
 exact h _ _ rfl ⟨m', _, F3, hm', fun p hp => N3 p (.tail _ hp), hl, hn', hg⟩
theorem q80 {l led' : Led} (hl : led'.map eP = l) : ∀ {its its' : List Value} {zss : List (List Int)}, its'.map eV = its -> All2 (RowE l) its zss -> q6w led' its' zss
 | _, [], [], rfl, _ => trivial
 | _, [], _ :: _, rfl, x => x.elim
 | _, _ :: _, [], rfl, x => x.elim
 | _, v :: vs, z :: zss, rfl, x => by
  refine ⟨?_, q80 hl rfl x.2⟩
  (refine E_ea (x.1) fun t hv hm => ?_)
  obtain rfl := q04 hv
  rw [<- hl] at hm
  (refine E_ea (List.mem_map.mp hm) fun z1z h1 h2 => ?_; obtain ⟨t', o⟩ := z1z)
  obtain rfl : t' = t := congrArg Prod.fst h2
  (refine q07 (q0b (congrArg Prod.snd h2 : eO o = _)) fun its k z1z h4 => ?_; subst z1z)
  exact ⟨t', its, k, rfl, h1, q0r h4⟩
theorem EvG.eqRows {zss : List (List Int)} {R1 R : Value -> Led -> Prop} (ha : EvG c m led a R1) (hb : ∀ v l, R1 v l -> ∃ D1, v = .ref D1 /\ EvG c m l b fun v2 l2 => ∃ (D2 : Addr) (i j : Nat) (v1 v3 : List Value), v2 = .ref D2 /\ l2[i]? = some (D1, lsO v1) /\ l2[j]? = some (D2, lsO v3) /\ All2 (RowE l2) v1 zss /\ All2 (RowE l2) v3 zss /\ R (.bool true) l2) (hu : c.un + 100 < cLine) (hm : behindInMarks .Eq b = false) : EvG c m led (.Compare a [.Eq] [b] pos) R := by
 intro Q E s S k
 refine wpAny_Compare1 (ha _ _ s S fun va l s1 ea S1 => ?_) hm
 (refine E_ea (hb _ _ ea) fun D1 hD1 hb => ?_)
 obtain rfl := q04 hD1
 refine hb _ _ s1 S1 fun vb l2 s2 eb S2 => ?_
 (refine q3p eb fun D2 i j v1 v3 hD2 h1 h2 h3 h4 hR => ?_; (try clear eb))
 obtain rfl := q04 hD2
 (refine E_ea (S2.list h1) fun i1 hL1 ht1 => ?_)
 (refine E_ea (S2.list h2) fun i2 hL2 ht2 => ?_)
 have S3 := S2
 (refine q00 S2 fun m' led' F hm' N hl hn' hg => ?_; (try clear S2))
 exact qf8 hL1 hL2 (fun p hp => (N p hp).1) (fun p hp => (N p hp).1) (q80 hl ht1 h3) (q80 hl ht2 h4) (Nat.lt_of_le_of_lt (Nat.add_le_add_left (by decide) _) hu) (k _ _ _ hR S3)
end
end
section
noncomputable def topC (w : World) (L a : Addr) (ccd : Value) (h₀ : Heap) (os : OsState) (cs : Scope) : Cx :=
 { w := w, dp := 302, un := 7, gd := some [], cn := Str.ofString "law", cs := cs, L := L, a := a, ccd := ccd, cl := [], outer := [], h₀ := h₀, env := envX (Str.ofString "law") cs L a ccd [], gp := fun g _ o' => AllBare g /\ o' = os }
noncomputable def GT (l : Led) : Prop := ∀ t ∈ ([68, 61, 211, 218] : List Addr), ∃ ps, (t, tabObj ps) ∈ l
noncomputable def PT (c : Cx) (f : Flow) (s : Shared) : Prop := f = .ret (.bool true) /\ ∃ m l, SS c m l s /\ GT l
noncomputable abbrev led0 : Led := [(68, tabObj #[]), (61, tabObj #[]), (211, tabObj #[]), (218, tabObj #[])]
noncomputable abbrev fm0 (sl : Addr) : Fm := fun x => [(Str.ofString "script", Value.ref sl)].lookup x
theorem topRun {w : World} {L a sl : Addr} {ccd : Value} {h₀ : Heap} {cs : Scope} {ss : List Stmt} {Q : Flow -> Shared -> Prop} {E : Value -> Shared -> Prop} {s : Shared} (h : Bd (topC w L a ccd h₀ s.os cs) (fm0 sl) led0 ss (PT (topC w L a ccd h₀ s.os cs))) (hE : PassesOwn (topC w L a ccd h₀ s.os cs).M (topC w L a ccd h₀ s.os cs).A (topC w L a ccd h₀ s.os cs).env E)
  (F : Fr h₀ L s.heap (fm0 sl)) (N : News h₀ L s.heap led0) (hg : AllBare s.gens) (hQ : ∀ s', (∃ m l, SS (topC w L a ccd h₀ s.os cs) m l s' /\ GT l) -> Q (.ret (.bool true)) s') : wpAny (model Challenge.rw_un0030_01.row.prog w) (ktrTop 302 7 (some []) (Str.ofString "law") cs L a ccd [] []) (execs ss (envX (Str.ofString "law") cs L a ccd [])) Q E s :=
 h Q E s hE ⟨_, led0, F, fun x => by unfold fm0; rw [List.lookup]; cases x == Str.ofString "script" <;> rfl, N, rfl, by decide, hg, rfl⟩ fun f s' ⟨e, r⟩ => by rw [e]; exact hQ s' r
theorem qen {cs : List q11} (hg : GoodC cs) (hlen : (q02 cs).length <= 48) (hasc : ∀ a ∈ q02 cs, a < 128) {wd hd : Int} {sp : Str} (hh : 0 <= hd /\ hd < 4) {si : List q11} {cl : q11} (he : (fsAt wd sp hd cs cs.length).chs = si.map strC ++ [strC cl]) (hcl : cl ∈ cs) (hl : cl.2.getLast? = some 33) :
  (0 <= (fsAt wd sp hd cs cs.length).sz /\ (fsAt wd sp hd cs cs.length).sz + csum (fsAt wd sp hd cs cs.length).chs < 100000) /\ (∀ q ∈ (fsAt wd sp hd cs cs.length).chs, PyData.strOk q.1 = true /\ PyData.strOk q.2 = true /\ q.2 ≠ Str.ofString "") /\ (fsAt wd sp hd cs cs.length).chs ≠ [] /\ Txt.isspace (q0m (fsAt wd sp hd cs cs.length).chs) = false := by
 (refine q2e (qaa hg hlen hasc hh he hcl hl) fun z1z z2z z3z h5 => ?_; obtain ⟨h1, h2⟩ := z1z; (try clear z2z); (try clear z3z))
 (refine E_aa (q3z (Wd := wd) (sp := sp) (sz := hd) (cs := cs) cs.length (Nat.le_refl _)) fun h6 z1z z2z => ?_; (try clear z1z); (try clear z2z))
 refine ⟨⟨h1, by rw [he]; exact Int.lt_trans h2 (by decide)⟩, fun q hq => ?_, by rw [he]; exact fun h => absurd (List.append_eq_nil_iff.mp h).2 (List.cons_ne_nil _ _), by rw [he]; exact h5⟩
 (refine E_ea (h6 q hq) fun d hd z1z => ?_; subst z1z)
 (refine E_aa (q2v hd) fun m1 m2 _ => ?_)
 refine ⟨q23 fun a ha => hasc a (m1 a ha), q23 fun a ha => hasc a (m2 a ha), fun e => ?_⟩
 exact (hg d hd).2.2.1 (congrArg (fun x : Str => x.cps.toList) e)
theorem q9u {k : Int} (h0 : 0 <= k) (h5 : k < 5) : ∃ sp, [sv (Str.ofString ";, \t"), sv (Str.ofString " "), sv (Str.ofString "\t"), sv (Str.ofString ", \t"), sv (Str.ofString "\t ;")][k.toNat]? = some (sv sp) /\ (∀ c ∈ sp.cps.toList, c ∈ [59, 44, 32, 9]) /\ sp.cps.toList.length <= 4 /\ sp.cps.all (· < 128) = true := by
 have h : k = 0 ∨ k = 1 ∨ k = 2 ∨ k = 3 ∨ k = 4 := by exact o338 h0 h5
 rcases h with rfl | rfl | rfl | rfl | rfl <;> exact ⟨_, rfl, by decide, by decide, by decide +kernel⟩
theorem qh0 {w : World} {L a : Addr} {ccd : Value} {h₀ : Heap} {os : OsState} {cs : Scope} {A₀ : Around} {p : Program} {loose : List Str} {mean : ExcName -> Option Value} {mg mb : Str -> Option Value} (B : Below A₀ h₀ [] h₀) (C1 : CodeHd h₀ 72 68) (C2 : CodeHd h₀ 65 61) (X : (Mine.hd.heap_1 w.params).In h₀) (T : Top p loose mean mg mb h₀) (hk : cs.kind = .function) : (topC w L a ccd h₀ os cs).Ok :=
 ⟨⟨⟨_, _, B, C1, C2⟩, X, ⟨_, _, _, _, _, T⟩, hk, hk, rfl, rfl⟩, rfl⟩
theorem qbs {w : World} {L a : Addr} {ccd : Value} {h₀ : Heap} {os : OsState} {cs : Scope} : (topC w L a ccd h₀ os cs).Bare := ⟨os, rfl⟩
noncomputable abbrev chrs (l : List Int) : List Str := (l.map vI).map fun v => (⟨#[(ival v).toNat]⟩ : Str)
theorem q9z (l : List Int) : Txt.join "" (chrs l) = strL (octN l) := qcq (q0r (by rw [List.map_map]; rfl))
theorem q8o (l : List Int) : (chrs l).length = l.length := by rw [List.length_map, List.length_map]
theorem qdj (l : List Int) : ((chrs l).map (·.length)).sum = l.length := by rw [qd3, List.length_map]
theorem TabL.mem {tab : Addr} {q : Str} {lin col : Nat} {T : Led} (h : TabL tab q lin col T) : ∃ ps, (tab, tabObj ps) ∈ T := by
 rcases h with rfl | ⟨c', oc, rfl, -⟩
 ·exact ⟨_, .head _⟩
 ·exact ⟨_, .head _⟩
theorem GT.of {l : Led} (h1 : ∃ ps, (68, tabObj ps) ∈ l) (h2 : ∃ ps, (61, tabObj ps) ∈ l) (h3 : ∃ ps, (211, tabObj ps) ∈ l) (h4 : ∃ ps, (218, tabObj ps) ∈ l) : GT l := List.forall_mem_cons.mpr ⟨h1, List.forall_mem_cons.mpr ⟨h2, List.forall_mem_cons.mpr ⟨h3, List.forall_mem_cons.mpr ⟨h4, fun _ h => nomatch h⟩⟩⟩⟩
theorem qcy {w : World} {L a sl : Addr} {ccd : Value} {h₀ : Heap} {os : OsState} {cs : Scope} {A₀ : Around} {p : Program} {loose : List Str} {mean : ExcName -> Option Value} {mg mb : Str -> Option Value} {ss : List Stmt} {P : Flow -> Shared -> Prop} (B : Below A₀ h₀ [] h₀) (C1 : CodeHd h₀ 72 68) (C2 : CodeHd h₀ 65 61) (X : (Mine.hd.heap_1 w.params).In h₀) (T : Top p loose mean mg mb h₀) (hk : cs.kind = .function)
  (h : (topC w L a ccd h₀ os cs).Ok -> Bd (topC w L a ccd h₀ os cs) (fm0 sl) led0 ss P) : Bd (topC w L a ccd h₀ os cs) (fm0 sl) led0 ss P := h (qh0 B C1 C2 X T hk)
section
variable {w : World} {L a : Addr} {ccd : Value} {h₀ : Heap} {os : OsState} {cs : Scope}
theorem topD {j : Nat} (h : j <= 600) : (topC w L a ccd h₀ os cs).dp + j < recursionLimit := Nat.lt_of_le_of_lt (Nat.add_le_add_left h 302) (by decide)
theorem topU {j : Nat} (h : j <= 9000) : (topC w L a ccd h₀ os cs).un + j < cLine := Nat.lt_of_le_of_lt (Nat.add_le_add_left h 7) (by decide)
theorem qby : ∀ p ∈ led0, p.2 = tabObj #[] := List.forall_mem_cons.mpr ⟨rfl, List.forall_mem_cons.mpr ⟨rfl, List.forall_mem_cons.mpr ⟨rfl, List.forall_mem_cons.mpr ⟨rfl, fun _ h => nomatch h⟩⟩⟩⟩
end
theorem q4i {Wd : Int} {sp : Str} {sz : Int} {cs : List (List Nat × List Nat)} : ∀ i, i <= cs.length -> (fsAt Wd sp sz cs i).rows.length <= i
 | 0, _ => by unfold fsAt; rw [List.take_zero]; exact Nat.le_refl _
 | i + 1, hi => by rw [q2w (List.getElem?_eq_getElem hi)]; exact Nat.le_trans q4y (Nat.add_le_add_right (q4i i (Nat.le_of_succ_le hi)) 1)
theorem q5u (rws : List (List Nat)) {n : Nat} (h : rws.flatten.length <= n) : ((rws.map strL).map (·.length)).sum <= n := by rw [qcg]; exact h
theorem qa8 (rws : List (List Nat)) {y : Str} (h : strL rws.flatten = y) : Txt.join "" (rws.map strL) = y := (join_rows rws).trans h
end
example : True := by
 k_with_none
 k_with "k_all" => (exact q1q (by assumption))
 k_with "k_room" => (ktr_room)
 k_with "w boot" => (first | rfl | boot_by_name | decide)
 k_with "w ev" => (first
 | ((with_reducible show Ev _ _ _ (Expr.Constant (Const.int _) _ _) _); exact Ev.int)
 | ((with_reducible show Ev _ _ _ (Expr.Name _ _) _); first
  | exact Ev.name (by assumption) (by rfl) (by rfl) (by first | rfl | assumption)
  | exact Ev.free (by assumption) (by rfl) (by rfl) (by rfl) (by rfl) (by assumption) (by rfl)
  | exact Ev.cellv (by assumption) (by rfl) (by rfl) (by rfl) (by assumption) (by rfl)
  | exact Ev.builtin (by assumption) (by rfl) (by rfl) (by k_is) (by wtm_at "boot") (by decide) (by rfl)
  | exact Ev.globalE (by assumption) (by rfl) (by rfl) (by k_is) (by rfl))
 | ((with_reducible show Ev _ _ _ (Expr.BinOp _ Operator.Add _ _) _); exact Ev.add (by wtm_at "ev") (by wtm_at "ev"))
 | ((with_reducible show Ev _ _ _ (Expr.BinOp _ Operator.Sub _ _) _); exact Ev.sub (by wtm_at "ev") (by wtm_at "ev"))
 | ((with_reducible show Ev _ _ _ (Expr.BinOp _ Operator.Mod _ _) _); exact Ev.mod (by wtm_at "ev") (by wtm_at "ev") (by decide))
 | ((with_reducible show Ev _ _ _ (Expr.BinOp _ Operator.FloorDiv _ _) _); exact Ev.fdiv (by wtm_at "ev") (by wtm_at "ev") (by decide) (by exact PyProof.noPylong_of_log2 (by decide +kernel)))
 | ((with_reducible show Ev _ _ _ (Expr.BinOp _ Operator.RShift _ _) _); exact Ev.shr (by wtm_at "ev") (by wtm_at "ev") (by first | decide | omega))
 | ((with_reducible show Ev _ _ _ (Expr.BinOp _ Operator.LShift _ _) _); exact Ev.shl (by wtm_at "ev") (by wtm_at "ev") (by first | decide | omega) (by wtm_at "bits"))
 | ((with_reducible show Ev _ _ _ (Expr.BinOp _ Operator.BitXor _ _) _); exact Ev.xor (by wtm_at "ev") (by wtm_at "ev"))
 | ((with_reducible show Ev _ _ _ (Expr.BinOp _ Operator.Mult _ _) _); exact Ev.mul (by wtm_at "ev") (by wtm_at "ev") (by wtm_at "mul"))
 | ((with_reducible show Ev _ _ _ (Expr.UnaryOp UnaryOp.USub _ _) _); exact Ev.neg (by wtm_at "ev"))
 | ((with_reducible show Ev _ _ _ (Expr.Compare _ [CmpOp.Lt] _ _) _); exact Ev.lt (by wtm_at "ev") (by wtm_at "ev") (by rfl))
 | ((with_reducible show Ev _ _ _ (Expr.Subscript _ _ _) _); exact Ev.item (by wtm_at "ev") (by wtm_at "ev") (by wtm_at "at") (by omega) (by omega) (by assumption) (by intro u; rfl))
 | ((with_reducible show Ev _ _ _ (Expr.Call _ _ _ _) _); exact Ev.len (by wtm_at "ev") (by wtm_at "ev") (by wtm_at "at") (by wtm_at "sz") (by rfl) (by rfl)))
 k_with "w tb" => (first
 | ((with_reducible show Tb _ _ _ (Expr.Compare _ [CmpOp.Lt] _ _) _); exact Tb.lt (by wtm_at "ev") (by wtm_at "ev") (by rfl))
 | ((with_reducible show Tb _ _ _ (Expr.Compare _ [CmpOp.LtE] _ _) _); exact Tb.le (by wtm_at "ev") (by wtm_at "ev") (by rfl))
 | ((with_reducible show Tb _ _ _ (Expr.Compare _ [CmpOp.Eq] _ _) _); exact Tb.eq (by wtm_at "ev") (by wtm_at "ev") (by rfl))
 | ((with_reducible show Tb _ _ _ (Expr.Compare _ [CmpOp.Gt] _ _) _); exact Tb.gt (by wtm_at "ev") (by wtm_at "ev") (by rfl))
 | ((with_reducible show Tb _ _ _ (Expr.Compare _ [CmpOp.In] _ _) _); exact Tb.inn (by wtm_at "ev") (by wtm_at "eva") (by rfl) (by decide) (by rfl))
 | ((with_reducible show Tb _ _ _ (Expr.UnaryOp UnaryOp.Not _ _) _); exact Tb.not (by wtm_at "tb"))
 | ((with_reducible show Tb _ _ _ (Expr.BoolOp BoolOp.And _ _) _); exact Tb.and (by wtm_at "tba"))
 | ((with_reducible show Tb _ _ _ (Expr.Name _ _) _); exact Tb.bool (by wtm_at "ev") (by rfl)))
 k_with "w tba" => (first
 | ((with_reducible show TbA _ _ _ (_ :: _) _); exact TbA.cons (by wtm_at "tb") (by wtm_at "tba"))
 | ((with_reducible show TbA _ _ _ [] _); exact TbA.nil))
 k_with "w eva" => (first
 | ((with_reducible show EvA _ _ _ [] _); exact EvA.nil)
 | ((with_reducible show EvA _ _ _ (_ :: _) _); exact EvA.cons (by rfl) (by wtm_at "ev") (by wtm_at "eva")))
 k_with "w at" => (first | with_reducible assumption | with_reducible exact q3e | with_reducible exact q06 (by wtm_at "at") | with_reducible exact q0f (by wtm_at "at"))
 k_with "w sz" => ((simp only [List.length_map, List.length_replicate]; omega))
 k_with "w bits" => (exact kbm_shl (m := 64) (intBits_le_64 (by omega) (by omega)) (by omega) (by decide))
 k_with "w mul" => (first | exact IntMulOk.of_left (intBits_le_64 (by omega) (by omega)) | exact IntMulOk.of_right (intBits_le_64 (by omega) (by omega)))
 k_with "w ev" => (first | ((with_reducible show Ev _ _ _ (Expr.Constant (Const.str _) _ _) _); exact Ev.strc))
 trivial
noncomputable def qh2 (cw : ClaimW) (args : List WData) (s₁ : Shared) (tabs : List (Addr × Addr)) (r : Result) (s' : Shared) : Prop :=
 ∃ b, r = .ok (.ret (.bool b)) /\ (∀ cls, cw.raises args cls = false) /\ cw.post args (.bool b) args = true /\ (∀ b o, (ghostOf s₁.heap tabs).get? b = some o -> s'.heap.get? b = some o) /\ s'.os = s₁.os /\ AllBare s'.gens /\ GrownAll tabs s'.heap
theorem qco {M : Model} {A : Around} {cd : Code} {s s₁ : Shared} {cw : ClaimW} {cl : Str -> Option Addr} {mean : ExcName -> Option Value} {args : List WData} {tabs : List (Addr × Addr)} (hT : TabsAt tabs s₁.heap)
  (h : codeAny M A cd (fun r s' => qh2 cw args s₁ tabs r s') s) : codeAny M A cd (GoodWG cw cl mean args s₁) s :=
 codeAny_mono h fun r s' ⟨x, hr, hn, hp, hk, hos, hg, hgr⟩ => by
  have keep : ∀ b o, b ∉ tabs.map (·.2) -> s₁.heap.get? b = some o -> s'.heap.get? b = some o := fun b o hb e => hk b o (ghost_ne e hb)
  have grown : ∀ b o, b ∈ tabs.map (·.2) -> s₁.heap.get? b = some o -> isCodeTable s₁.heap b /\ o = tabObj #[] /\ ∃ ps, s'.heap.get? b = some (tabObj ps) := fun b o hb e => by
   (refine E_ea (List.mem_map.mp hb) fun q hq z1z => ?_; subst z1z)
   have e2 := (hT q hq).2
   rw [e] at e2
   exact ⟨((hT q hq).1.tab (hT q hq).2).isCodeTable, Option.some.inj e2, hgr.get q hq⟩
  refine ⟨.inl ⟨_, .bool x, [], hr, hn, .bool x, hp, unshared_nil⟩, ⟨fun b o e => ?_, fun b o e => ?_⟩, hos, hg⟩
  ·by_cases hb : b ∈ tabs.map (·.2)
   ·(refine qgw (grown b o hb e) fun ht z1z ps hP => ?_; subst z1z)
    exact .inr (.inl ⟨ht, rfl, #[], ps, rfl, by rw [Array.empty_append]; exact hP⟩)
   ·exact .inl (keep b o hb e)
  ·by_cases hb : b ∈ tabs.map (·.2)
   ·(refine qgw (grown b o hb e) fun _ _ ps hP => ?_)
    exact ⟨_, hP⟩
   ·exact ⟨o, keep b o hb e⟩
theorem qec {vs : List Value} {ns : List Int} (_ : IntsAre vs ns) : ∃ n, n = ns := ⟨_, rfl⟩
theorem topZ : PySem.Challenge.rw_un0030_01.Holds := Mine.hd (by
 k_fill
 intro w s₀ s₁ mg mb G Y fa o pm cd doc dV kV ho hd hcd hD hmg hg args vals as hpre hlay hrd hwl hlo
 have KX := km_in_of Y
 km_tabs Y
 have X := (Ground.X G).1
 have V := (Ground.X G).2
 refine Ground.open G ?_
 intro T B D TE TW
 try (refine guard_noD D (by decide +kernel) ?_; clear D)
 have hT9 : TabsAt [(72, 68), (65, 61), (215, 211), (222, 218)] s₁.heap := List.forall_mem_cons.mpr ⟨⟨codeHd_of_K (c := 72) (P := 68) KX (by kernel_rfl), hT8 68 (by k_mem)⟩, List.forall_mem_cons.mpr ⟨⟨codeHd_of_K (c := 65) (P := 61) KX (by kernel_rfl), hT8 61 (by k_mem)⟩, List.forall_mem_cons.mpr ⟨⟨codeHd_of_K (c := 215) (P := 211) KX (by kernel_rfl), hT8 211 (by k_mem)⟩, List.forall_mem_cons.mpr ⟨⟨codeHd_of_K (c := 222) (P := 218) KX (by kernel_rfl), hT8 218 (by k_mem)⟩, fun _ h => nomatch h⟩⟩⟩⟩
 wrow_args hpre hlay hrd hwl hlo
 first | refine callC_kw (enter_call ?_) | refine enter_call ?_
 w_top on
 refine qco hT9 ?_
 w_call any ho hd hcd hD T F
 clear hd
 kn_ghosts F T
 k_drop
 rename Fr _ _ _ _ => F0
 rename News _ _ _ _ => N0
 rename Below _ _ _ _ => B0
 rename Top topProg _ _ _ _ (ghostOf _ _) => T0
 rename Frag.In _ (ghostOf _ _) => X0
 rename IntsAre _ _ => hI
 rename_i C72 C65 C215 q1 q2 q3 q4
 (refine E_e (qec hI) fun ns z1z => ?_; subst z1z)
 clear V TE TW hT8 hT9 X T B hD hcd hmg ho
 rename Heap.IsList (ghostOf _ _) _ _ => lifted
 (refine E_e (⟨_, rfl⟩ : ∃ g0, g0 = ghostOf s₁.heap [(72, 68), (65, 61), (215, 211), (222, 218)]) fun g0 hg0 => ?_)
 rw [<- hg0] at F0 N0 B0 T0 X0 lifted C72 C65
 refine' H.topRun (h₀ := g0) ?h ?hE F0 N0 ?hg ?hQ
 case hg => exact AllBare.of_eq hg
 case hE => first | exact PassesOwn.never | exact PassesOwn.leaving
 case hQ =>
  (intro s'; intro z1y; refine q07 z1y fun m l S hG => ?_; (try clear z1y))
  have tb : ∀ t ∈ ([68, 61, 211, 218] : List Addr), ∃ ps, s'.heap.get? t = some (tabObj ps) := fun t ht => by
   (refine E_e (hG t ht) fun ps h => ?_)
   (refine E_e (q16 h) fun i hi => ?_)
   exact ⟨ps, S.obj hi rfl⟩
  (refine q32 S fun m' led' F' z1z z2z z3z z4z hb hos => ?_; (try clear S); (try clear z1z); (try clear z2z); (try clear z3z); (try clear z4z))
  rw [hg0] at F'
  refine ⟨true, rfl, raisesW_false ?w1, postW_of ?w2 ?w3 rfl, F'.keep, hos, hb, ?w5⟩
  case w1 => wrow_none_raised
  case w2 => wrow_shape
  case w3 => wtm_val
  case w5 => exact ⟨tb 68 (by decide), tb 61 (by decide), tb 211 (by decide), tb 218 (by decide), trivial⟩
 case h =>
  have hns : ns.length <= 63 := by exact o61 (by assumption)
  have hNR := q92 ns
  (refine E_a (qda ns) fun hNL hNP => ?_)
  have hNlast := qas ns
  have hN0 : (numsOf ns).getD 0 0 = 32 := rfl
  refine qcy B0 C72 C65 X0 T0 (by exact rfl) ?_
  refine (let c0 : Cx := _; fun (okc : c0.Ok) => (?_ : Bd c0 _ _ _ (PT c0)))
  refine Bd.assignG okc (EvG.call okc (by wtm_at "ev") (fun v => q04) (by k_is) (by wtm_at "eva") (qhe okc.toOkG qby lifted hI hns (topD (by decide)) (topU (by decide))) rfl rfl rfl) (fun v l hv => ?_) rfl rfl
  (refine E_ea hv fun nl z1z z2z => ?_; (try clear hv); subst z1z; subst z2z)
  generalize numsOf ns = nums at hNR hNL hNP hNlast hN0 ⊢
  refine (let m1 : Fm := _; (?_ : Bd c0 m1 _ _ _))
  have hn63 : nums.length <= 63 := Nat.le_trans hNL (by decide)
  let rA : Led := [(nl, lsI nums), (68, tabObj #[]), (211, tabObj #[]), (218, tabObj #[])]
  refine Bd.assignG okc (R := fun v l => ∃ g T', v = sv (strL (octN (q01 nums))) /\ TabL 61 q2d 45 4 T' /\ l = g ++ (T' ++ rA)) (EvG.joinG (ls := chrs (q01 nums)) Ev.strc (R := fun v l => ∃ D x T', v = .ref D /\ TabL 61 q2d 45 4 T' /\ l = [(D, lsO ((chrs (q01 nums)).map sv)), x] ++ (T' ++ rA)) ?ecomp ?ejoin (by rw [q8o]; exact Nat.lt_of_le_of_lt (q2b nums) (by exact o42 hNL)) (by decide) (by rw [qdj]; exact Nat.le_trans (q2b nums) (by exact o44 hNL)) (by with_unfolding_all rfl) rfl) (fun v l hv => ?_) rfl rfl
  case ejoin =>
   (intro _; intro _; intro z1y; refine q1o z1y fun D x T' z2z hT' z3z => ?_; (try clear z1y); subst z2z; subst z3z)
   exact ⟨D, 0, rfl, rfl, _, T', by rw [q9z], hT', rfl⟩
  case ecomp =>
   refine EvG.comp1 (cl := []) (W := fun It2 io2 l => ∃ ol T', TabL 61 q2d 45 4 T' /\ l = (ol, lsI (q01 nums)) :: (T' ++ rA) /\ ITl ol 0 io2) okc.toOkG rfl (by decide) rfl (by decide) rfl (fun v => rfl) ?_ ?_
   ·refine ItE.list (EvG.call okc (by wtm_at "ev") (fun v => q04) (by k_is) (by wtm_at "eva") (Cl.perm (l' := [(61, tabObj #[])] ++ rA) (List.perm_append_comm_assoc [_, _] [_] [_, _]) (octH (j := 0) okc (.inl rfl) rfl hn63 hNR (topD (by decide)) (topU (by decide)))) rfl rfl rfl) ?_
    (intro _; intro _; intro z1y; refine q08 z1y fun ol T' z2z hT' z3z => ?_; (try clear z1y); subst z2z; subst z3z)
    exact ⟨ol, _, rfl, ⟨0, rfl⟩, fun It2 io2 h => ⟨ol, T', hT', rfl, h⟩⟩
   ·(intro It2; intro io2; intro _; intro z1y; refine q08 z1y fun ol T' hT' z2z hI2 => ?_; (try clear z1y); subst z2z)
    refine ⟨_, _, _, _, fun k ys l => l = (ol, lsI (q01 nums)) :: (T' ++ rA) /\ ys = ((chrs (q01 nums)).take k).map sv, ?_, hI2, q27 (vs := (q01 nums).map vI), fun p l h => h.elim fun j hj => ⟨j + 1, hj⟩, ⟨rfl, rfl⟩, ?_, ?_, ?_⟩
    ·rw [List.length_map]; exact Nat.le_trans (q2b nums) (by exact o43 hNL)
    ·(intro k; intro ys; intro _; intro z1y; refine E_a z1y fun z2z z3z => ?_; (try clear z1y); subst z2z; (try clear z3z)); exact ⟨0, rfl⟩
    ·(intro k; intro ys; intro _; intro C; intro D; intro oC; intro io; intro mm; intro okC; intro hk; intro hyl; intro hio; intro hN; intro hm; intro z1y; refine E_a z1y fun z2z z3z => ?_; (try clear z1y); subst z2z; subst z3z)
     rw [List.length_map] at hk
     (refine E_e (⟨_, List.getElem?_eq_getElem hk⟩ : ∃ x, (q01 nums)[k]? = some x) fun x hz => ?_)
     rw [List.getD_eq_getElem?_getD, List.getElem?_map, hz] at hm
     (refine E_a (q5m hNR x (List.mem_of_getElem? hz)) fun x0 x1 => ?_)
     refine EvG.mono (Ev.g (Ev.chr (Ev.builtinG okC rfl rfl (by k_is) (by boot_by_name) (by decide) rfl) (Ev.nameC okC rfl rfl rfl (i := 1) rfl hN hm) x0 (by exact o351 x1) rfl rfl)) ?_
     (intro _; intro _; intro z1y; refine E_a z1y fun z2z z3z => ?_; (try clear z1y); subst z2z; subst z3z)
     refine ⟨_, .refl _, rfl, ?_⟩
     rw [List.take_add_one, List.getElem?_map, List.getElem?_map, hz, List.map_append]; rfl
    ·(intro ys; intro _; intro D; intro hyl; intro z1y; refine E_a z1y fun z2z z3z => ?_; (try clear z1y); subst z2z; subst z3z)
     exact ⟨D, (ol, lsI (q01 nums)), T', rfl, hT', by rw [List.take_of_length_le (by rw [q8o, List.length_map]; exact Nat.le_refl _)]; rfl⟩
  (refine q08 hv fun g T' z1z hT' z2z => ?_; (try clear hv); subst z1z; subst z2z)
  refine Bd.sub (List.sublist_append_right _ _) ?_
  generalize htx : strL (octN (q01 nums)) = tx
  refine (let m1 : Fm := _; (?_ : Bd c0 m1 _ _ _))
  refine Bd.assign okc (Ev.sum6 (by wtm_at "ev") (by wtm_at "ev") (by wtm_at "ev") lifted hI hns rfl rfl) ?_ rfl rfl
  generalize (List.take 6 ns).sum = tot
  refine (let m1 : Fm := _; (?_ : Bd c0 m1 _ _ _))
  refine Bd.assign okc (by wtm_at "ev") ?_ rfl rfl
  refine Bd.assign okc (by wtm_at "ev") ?_ rfl rfl
  have hk5a : 0 <= tot / 24 % 5 := Int.emod_nonneg _ (by decide)
  have hk5b : tot / 24 % 5 < 5 := Int.emod_lt_of_pos _ (by decide)
  have hh4a : 0 <= tot / 6 % 4 := Int.emod_nonneg _ (by decide)
  have hh4b : tot / 6 % 4 < 4 := Int.emod_lt_of_pos _ (by decide)
  (refine q3l (q9u hk5a hk5b) fun sp hsp hspc hspl hspa => ?_)
  refine Bd.assign okc (Ev.itemN (EvG.list (by wtm_at "eva") (by decide)) (fun D => by wtm_at "ev") hk5a (Int.lt_trans hk5b (by decide)) hsp (by intro D u; rfl)) ?_ rfl rfl
  clear hsp hk5a hk5b
  generalize tot / 6 % 4 = hed at hh4a hh4b ⊢
  generalize 5 + tot % 6 = wid
  refine (let m1 : Fm := _; (?_ : Bd c0 m1 _ _ _))
  (refine q78 (qbj hNR hN0 hNP hNlast (wd := wid) (hd := hed) hh4a (sp := sp) (codes := sp.cps.toList.map Int.ofNat) rfl hspc) fun cs hGd hcne hflat z1z rws hrws hrfl hrdue hrng => ?_; obtain ⟨si, cl, hchs, hclm, hcl33⟩ := z1z)
  have hON : (q02 cs).length <= 48 := by rw [hflat, q5h]; exact Nat.le_trans (q2b nums) (by exact o45 hNL)
  have hON8 : ∀ a ∈ q02 cs, a < 128 := by
   intro a ha
   rw [hflat] at ha
   (refine E_ea (List.mem_map.mp ha) fun x hx z1z => ?_; subst z1z)
   have := q5m hNR x hx
   omega
  have hrf := q9a hNR hNL hrfl hrdue hrng
  rw [<- hflat] at htx hrfl
  subst htx
  (refine q2e (qen hGd hON hON8 (wd := wid) (sp := sp) ⟨hh4a, hh4b⟩ hchs hclm hcl33) fun hst1 hst2 hst3 hst4 => ?_)
  have hcsl := qdx hGd
  have hrl : rws.length <= 49 := by
   have h1 := congrArg List.length hrws
   have h2 := q4i (Wd := wid) (sp := sp) (sz := hed) cs.length (Nat.le_refl _)
   rw [List.length_append, List.length_map, List.length_singleton] at h1
   omega
  clear hchs hclm hcl33 si cl
  refine Bd.assignG okc (EvG.call okc (by wtm_at "ev") (fun v => q04) (by k_is) (by wtm_at "eva") (Cl.perm (l' := [(211, tabObj #[]), (218, tabObj #[])] ++ (T' ++ [(nl, lsI nums), (68, tabObj #[])])) ((List.Perm.append_left T' (List.perm_append_comm (l₁ := [_, _]) (l₂ := [_, _]))).trans (List.perm_append_comm_assoc _ _ _)) (fmtH okc.toOkG (.inl rfl) (.inl rfl) (topD (by decide)) (topU (by decide)))) rfl rfl rfl) (fun v l hv => ?_) rfl rfl
  (refine q9x hv fun F z1z hF z2z z3z hl => ?_; (try clear hv); subst z1z; subst z2z; subst z3z)
  refine (let m1 : Fm := _; (?_ : Bd c0 m1 _ _ _))
  refine Bd.expr (EvG.fmtM okc.toOkG hF hl (by wtm_at "ev") (by k_is) (by k_is) (by k_is) (by k_is) (fun K => ⟨_, _, rfl, rfl⟩) (by wtm_at "eva") (qgf okc.toOkG qbs hF hspa hl ⟨rfl, rfl⟩ (by k_is) (by k_is) hGd hcne (Nat.lt_of_le_of_lt hON (by decide)) hON8 ⟨hh4a, Int.lt_trans hh4b (by decide)⟩ (topD (by decide)) (topU (by decide))) (by with_unfolding_all rfl) rfl) (fun v l2 hv => ?_) rfl rfl
  (refine q84 hv fun z1z r its' hl2 hC hil => ?_; (try clear hv); (try clear z1z))
  clear hl
  have hj : (Txt.join ⟨#[128]⟩ (rws.map strL)).length <= 10000 := Nat.le_trans (qcv _) (by rw [List.length_map]; have := q5u rws (n := 48) (by rw [hrfl] at *; exact hON); omega)
  have hrne : rws ≠ [] := qfi hrws
  have h128 : ∀ q ∈ rws.map strL, (128 : Nat) ∉ q.cps.toList := by
   intro q hq
   (refine E_ea (List.mem_map.mp hq) fun p hp z1z => ?_; subst z1z)
   exact (hrf.2.1 p hp).1
  refine Bd.assignG okc (EvG.splitS (R := fun l => ∃ ex, FL F ⟨[], (rws.map strL).map sv, 0⟩ (ex ++ (T' ++ [(nl, lsI nums), (68, tabObj #[])])) l) (x := Txt.join ⟨#[128]⟩ (rws.map strL)) (y := ⟨#[128]⟩) (rows := rws.map strL) ?estr ?echr rfl hj (q8y (c := 128) (by decide) (fun h => hrne (List.map_eq_nil_iff.mp h)) h128) (by with_unfolding_all rfl) rfl) (fun v l hv => ?_) rfl rfl
  case estr =>
   refine EvG.mono (EvG.fmtM okc.toOkG hF hl2 (by wtm_at "ev") (by k_is) (by k_is) (by k_is) (by k_is) (fun K => ⟨_, _, rfl, rfl⟩) (EvA.cons rfl (Ev.chr (by wtm_at "ev") (by wtm_at "ev") (by decide) (by decide) rfl rfl) EvA.nil) (qh6 (sep := ⟨#[128]⟩) okc.toOkG qbs hF hl2 (hC.mono fun p hp => List.mem_append_left _ hp) rfl (Nat.le_trans hil (by exact o170 hON hcsl)) (Nat.le_trans (q4i _ (Nat.le_refl _)) (by exact o170 hON hcsl)) hst1 hst2 (.inl hst3) (fun _ => hst4) (by decide) (by rw [hrws]; exact q5u rws (by rw [hrfl]; exact Nat.le_add_left_of_le hON)) (topD (by decide)) (topU (by decide))) (by with_unfolding_all rfl) rfl) ?_
   (intro v; intro l3; intro z1y; refine E_a z1y fun z2z hl3 => ?_; (try clear z1y); subst z2z)
   rw [hrws] at hl3 ⊢
   exact ⟨rfl, r, hl3⟩
  case echr => exact fun l _ => Ev.chr (x := 128) (by wtm_at "ev") (by wtm_at "ev") (by decide) (by decide) rfl rfl
  (refine q08 hv fun rl l3 z1z z2z z3z => ?_; (try clear hv); subst z1z; obtain ⟨ex, dz, pa, pb, -, -, -, rfl⟩ := z2z; subst z3z)
  refine Bd.pick (l' := T' ++ ([(68, tabObj #[])] ++ [(rl, lsO ((rws.map strL).map sv)), (211, tabObj pa), (218, tabObj pb), (nl, lsI nums)])) _ (.cons_cons _ (.cons _ (.cons _ (.cons _ (.cons _ (.cons _ (.cons_cons _ (.cons_cons _ (List.sublist_append_right _ _))))))))) ((List.perm_append_comm_assoc [_, _, _] T' [_, _]).trans (List.Perm.append_left T' (List.perm_append_comm (l₁ := [_, _, _, _]) (l₂ := [_])))) ?_
  clear hl2 hC hil hst1 hst2 hst3 hst4 hj h128
  have hrls : (rws.map strL).length <= 49 := by rw [List.length_map]; exact hrl
  generalize hrow : (nl, lsI nums) = pn
  refine (let m1 : Fm := _; (?_ : Bd c0 m1 _ _ _))
  let rB : Led := (T' ++ ([(68, tabObj #[])] ++ [(rl, lsO ((rws.map strL).map sv)), (211, tabObj pa), (218, tabObj pb), pn]))
  change Bd c0 m1 rB _ _
  have hiR : rB[T'.length + 1]? = some (rl, lsO ((rws.map strL).map sv)) := q0f rfl
  refine Bd.ite (Tb.neS (Ev.join (sep := "") (ls := rws.map strL) Ev.strc (by wtm_at "ev") hiR (by exact Nat.lt_of_le_of_lt hrls (by decide)) (by decide) (q5u rws (by rw [hrfl]; exact Nat.le_add_left_of_le hON)) (by with_unfolding_all rfl) rfl) (by wtm_at "ev") rfl) (fun h => ?_) (fun _ => Bd.fall ?_)
  ·rw [qa8 rws (y := strL (q02 cs)) (by rw [hrfl]), bne_self_eq_false] at h
   cases h
  (refine E_aa hrf fun hr1 z1z hr3 => ?_; (try clear hrf); (try clear z1z))
  have hfp := qax hNR (wd := F.Wd) (hd := hed) (codes := F.sp.cps.toList.map Int.ofNat)
  refine Bd.assignG okc (R := fun v l => ∃ (fl cl9 : Addr) (o : Obj), v = .ref fl /\ l = [(fl, lsI (q12 nums F.Wd hed (F.sp.cps.toList.map Int.ofNat))), (cl9, o)] ++ rB /\ (q12 nums F.Wd hed (F.sp.cps.toList.map Int.ofNat)).length <= 63)
   (EvG.callGA (RA := fun vs l => ∃ cl9, vs = [.ref nl, vI F.Wd, vI hed, .ref cl9] /\ l = (cl9, lsI (F.sp.cps.toList.map Int.ofNat)) :: rB) okc.toOkG (by wtm_at "ev") (fun v => q04) (by k_is) (EvGA.consE (by wtm_at "ev") (EvGA.consE (by wtm_at "ev") (EvGA.consE (by wtm_at "ev") (EvGA.cons (R1 := fun v l => ∃ cl9, v = .ref cl9 /\ l = (cl9, lsI (F.sp.cps.toList.map Int.ofNat)) :: rB) ?eord (fun v l hv => EvGA.nil ?enil) rfl) rfl) rfl) rfl) ?efol rfl rfl rfl) (fun v l hv => ?_) rfl rfl
  case enil => (refine E_ea hv fun cl9 z1z z2z => ?_; (try clear hv); subst z1z; subst z2z); exact ⟨cl9, rfl, rfl⟩
  case efol =>
   (intro _; intro _; intro z1y; refine E_ea z1y fun cl9 z2z z3z => ?_; (try clear z1y); subst z2z; subst z3z)
   refine Cl.mono (Cl.exact fun g d o => qgn (jn := (T'.length + 4) + 1) (jc := 0) (okc.exact g d o) Cx.exact_one (by rw [hrow]; exact q06 (q0f rfl)) rfl (q94 hN0 hNP) hn63 (by rw [List.length_map]; exact Nat.le_add_left_of_le hspl) hNR (by show 302 + 60 < recursionLimit; decide) (by show 7 + 600 < cLine; decide)) ?_
   (intro v; intro l; intro z1y; refine q1u z1y fun fl z2z z3z h => ?_; (try clear z1y); subst z2z; subst z3z)
   exact ⟨fl, cl9, _, rfl, rfl, h⟩
  case eord =>
   refine EvG.comp1 (cl := []) (W := fun It2 io2 l => ITs F.sp 0 io2 /\ l = rB) okc.toOkG rfl (by decide) rfl (by decide) rfl (fun v => rfl) (ItE.str (by wtm_at "ev") hspa) ?_
   (intro It2; intro io2; intro _; intro z1y; refine E_a z1y fun hI2 z2z => ?_; (try clear z1y); subst z2z)
   refine ⟨_, _, _, _, fun k ys l => l = rB /\ ys = ((F.sp.cps.toList.take k).map Int.ofNat).map vI, ?_, hI2, qa1, fun p l h => trivial, ⟨rfl, rfl⟩, fun _ _ _ _ => trivial, ?_, ?_⟩
   ·rw [<- Array.length_toList]; exact Nat.le_add_left_of_le hspl
   ·(intro k; intro ys; intro _; intro C; intro D; intro oC; intro io; intro mm; intro okC; intro hk; intro hyl; intro hio; intro hN; intro hm; intro z1y; refine E_a z1y fun z2z z3z => ?_; (try clear z1y); subst z2z; subst z3z)
    rw [<- Array.length_toList] at hk
    (refine E_e (⟨_, List.getElem?_eq_getElem hk⟩ : ∃ x, F.sp.cps.toList[k]? = some x) fun x hz => ?_)
    rw [Array.getD_eq_getD_getElem?, <- Array.getElem?_toList, hz] at hm
    refine EvG.mono (Ev.g (Ev.ord (y := x) (Ev.builtinG okC rfl rfl (by k_is) (by boot_by_name) (by decide) rfl) (Ev.nameC okC rfl rfl rfl (i := 1) rfl hN hm) rfl rfl)) ?_
    (intro _; intro _; intro z1y; refine E_a z1y fun z2z z3z => ?_; (try clear z1y); subst z2z; subst z3z)
    refine ⟨_, .refl _, rfl, ?_⟩
    rw [List.take_add_one, hz, List.map_append, List.map_append]; rfl
   ·(intro ys; intro _; intro D; intro hyl; intro z1y; refine E_a z1y fun z2z z3z => ?_; (try clear z1y); subst z2z; subst z3z)
    exact ⟨D, rfl, by rw [<- Array.length_toList, List.take_length]⟩
  (refine q1o hv fun fl cl9 o9 z1z z2z hfl => ?_; (try clear hv); subst z1z; subst z2z)
  refine Bd.perm (q1v _ T' [_] _) ?_
  generalize q12 nums F.Wd hed (F.sp.cps.toList.map Int.ofNat) = fds at hfl hfp hr1 hr3 ⊢
  refine (let m1 : Fm := _; (?_ : Bd c0 m1 _ _ _))
  let rC : Led := (T' ++ ([(68, tabObj #[])] ++ [(fl, lsI fds), (cl9, o9), (rl, lsO ((rws.map strL).map sv)), (211, tabObj pa), (218, tabObj pb), pn]))
  change Bd c0 m1 rC _ _
  refine Bd.ret (R := fun v l => v = .bool true /\ GT l) (EvG.eqRows (zss := q60 nums fds) (R1 := fun v l => ∃ D its ex, v = .ref D /\ l = ((D, lsO its) :: ex) ++ rC /\ All2 (RowE ex) its (q60 nums fds)) ?eread ?edue (topU (by decide)) rfl) ?eret
  case eret =>
   (intro v; intro l; intro s; intro z1y; refine E_a z1y fun hv hG => ?_; (try clear z1y); intro S)
   exact ⟨by rw [q42 hv], _, l, S, hG⟩
  case eread =>
   refine EvG.comp1 (cl := []) (W := fun It2 io2 l => l = rC /\ ITl rl 0 io2) okc.toOkG rfl (by decide) rfl (by decide) rfl (fun v => rfl) (ItE.list (Ev.g (by wtm_at "ev")) ?_) ?_
   ·(intro _; intro _; intro z1y; refine E_a z1y fun z2z z3z => ?_; (try clear z1y); subst z2z; subst z3z)
    exact ⟨rl, _, rfl, ⟨T'.length + 3, q0f rfl⟩, fun It2 io2 h => ⟨rfl, h⟩⟩
   ·(intro It2; intro io2; intro _; intro z1y; refine E_a z1y fun z2z hI2 => ?_; (try clear z1y); subst z2z)
    refine ⟨_, _, _, _, fun k ys l => ∃ ex, l = ex ++ rC /\ All2 (RowE ex) ys ((q60 nums fds).take k), ?_, hI2, q27 (vs := (rws.map strL).map sv), fun p l h => h.elim fun j hj => ⟨j + 1, hj⟩, ⟨[], rfl, trivial⟩, ?_, ?_, ?_⟩
    ·rw [List.length_map]; exact Nat.le_add_left_of_le hrls
    ·(intro k; intro ys; intro _; intro z1y; refine E_ea z1y fun ex z2z z3z => ?_; (try clear z1y); subst z2z; (try clear z3z)); exact ⟨ex.length + (T'.length + 3), q0f (q0f rfl)⟩
    ·(intro k; intro ys; intro _; intro C; intro D; intro oC; intro io; intro mm; intro okC; intro hk; intro hyl; intro hio; intro hN; intro hm; intro z1y; refine E_ea z1y fun ex z2z hA => ?_; (try clear z1y); subst z2z)
     rw [List.length_map, List.length_map] at hk
     (refine E_e (⟨_, List.getElem?_eq_getElem hk⟩ : ∃ r, rws[k]? = some r) fun r hri => ?_)
     rw [List.getD_eq_getElem?_getD, List.getElem?_map, List.getElem?_map, hri] at hm
     (refine q9x (hr3 k r hri) fun z hz1 hz2 hz3 hz4 hz5 => ?_)
     refine EvG.mono (EvG.callG okC (Ev.globalG okC rfl rfl (by k_is) rfl) (fun v => q04) (by k_is) (EvA.cons rfl (Ev.nameC okC rfl rfl rfl (i := 1) rfl hN hm) EvA.nil) (qh7 rfl rfl ⟨_, rfl⟩ X0 T0 B0 rfl hz2 hz3 hz4 hz5 ?rd ?ru) rfl rfl rfl) ?_
     case rd => show 302 + 50 < recursionLimit; decide
     case ru => show 7 + 400 < cLine; decide
     (intro _; intro _; intro z1y; refine E_ea z1y fun D9 z2z z3z => ?_; (try clear z1y); subst z2z; subst z3z)
     refine ⟨(D9, lsI z) :: (ex ++ _), List.perm_append_comm_assoc [_] [_, _, _] _, (D9, lsI z) :: ex, rfl, ?_⟩
     rw [List.take_add_one, hz1]
     exact All2.snoc ⟨D9, rfl, .head _⟩ (hA.mono (RowE.mono fun p hp => .tail _ hp))
    ·(intro ys; intro _; intro D; intro hyl; intro z1y; refine E_ea z1y fun ex z2z hA => ?_; (try clear z1y); subst z2z)
     rw [List.take_of_length_le (by rw [List.length_map, List.length_map, hr1]; exact Nat.le_refl _)] at hA
     exact ⟨D, ys, ex, rfl, rfl, hA⟩
  case edue =>
   (intro _; intro _; intro z1y; refine q1o z1y fun D its ex z2z z3z hA => ?_; (try clear z1y); subst z2z; subst z3z)
   refine ⟨D, rfl, EvG.mono (EvG.call okc (by wtm_at "ev") (fun v => q04) (by k_is) (by wtm_at "eva") (Cl.perm (q1v _ T' [_] _) (dueH okc hT' (.inl rfl) (q0f (ex := (D, lsO its) :: ex) (i := 5) (congrArg some hrow.symm)) (q0f (ex := (D, lsO its) :: ex) (i := 0) rfl) hn63 hNR hfp (topD (by decide)))) rfl rfl rfl) ?_⟩
   (intro v; intro l; intro z1y; refine q3p z1y fun rl2 its2 ex2 T1 T2 z2z hT1 hT2 z3z hA2 z4z => ?_; (try clear z1y); subst z2z; subst z3z; (try clear z4z))
   (refine E_e (q16 (l := (rl2, lsO its2) :: (T1 ++ (T2 ++ (ex2 ++ ((D, lsO its) :: ex ++ [(fl, lsI fds), (cl9, o9), (rl, lsO ((rws.map strL).map sv)), (211, tabObj pa), (218, tabObj pb), pn]))))) (p := (D, lsO its)) (.tail _ (List.mem_append_right _ (List.mem_append_right _ (List.mem_append_right _ (.head _)))))) fun i hi => ?_)
   refine ⟨rl2, i, 0, its, its2, rfl, hi, rfl, hA.mono (RowE.mono fun p hp => .tail _ (List.mem_append_right _ (List.mem_append_right _ (List.mem_append_right _ (List.mem_append_left _ (.tail _ hp)))))), hA2.mono (RowE.mono fun p hp => .tail _ (List.mem_append_right _ (List.mem_append_right _ (List.mem_append_left _ hp)))), rfl, GT.of ?_ ?_ ⟨pa, ?_⟩ ⟨pb, ?_⟩⟩
   ·(refine E_e (hT2.mem) fun ps h => ?_); exact ⟨ps, .tail _ (List.mem_append_right _ (List.mem_append_left _ h))⟩
   ·(refine E_e (hT1.mem) fun ps h => ?_); exact ⟨ps, .tail _ (List.mem_append_left _ h)⟩
   ·exact .tail _ (List.mem_append_right _ (List.mem_append_right _ (List.mem_append_right _ (List.mem_append_right _ (.tail _ (.tail _ (.tail _ (.head _))))))))
   ·exact .tail _ (List.mem_append_right _ (List.mem_append_right _ (List.mem_append_right _ (List.mem_append_right _ (.tail _ (.tail _ (.tail _ (.tail _ (.head _))))))))))
end
end H
end Mine
set_option maxRecDepth 100000 in
set_option maxHeartbeats 8000000 in
theorem PySem.Challenge.cw_un0030_01_holds : PySem.Challenge.rw_un0030_01.Holds := by
  exact Mine.H.topZ
