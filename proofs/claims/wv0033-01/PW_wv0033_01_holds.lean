import PyProof.Rows.All
import Wide.All
import OpenK.AllK
import Wide.FinOn
import Lean
import PySem.Challenge.RW_wv0033_01
set_option Elab.async false
set_option compiler.extract_closed false
namespace Mine
section SHA
open PySem PySem.W PyProof.Rows
set_option maxRecDepth 100000
set_option maxHeartbeats 8000000
abbrev loose : List Str := [Str.ofString "capwords", Str.ofString "_name_disallowed_re", Str.ofString "_value_disallowed_re", Str.ofString "_SelectorContext"]
def vw : Program := view PySem.Challenge.pw_wv0033_01 [0, 1, 3, 4, 8, 9, 10, 12, 13, 14, 16, 17, 18, 19, 20, 21, 22, 23, 24, 25, 26]
def lookAt (l : OpenLaw) : Bool := l.wellSaid
theorem lookAt_rfl : lookAt = lookAt := rfl
noncomputable def topAt (p q : Program) (lo : List Str) (R : WRecords) (as ts : List Addr) (w : World) :=
  (openEnds treeTable p w 3414).map (fun s => (openSeen q lo (importedModules p.main.body) (fun s => xlAt q [] s && recOk R s) true s, (as.map s.heap.get?, ts.map s.heap.get?)))
theorem topAt_rfl : topAt = topAt := rfl
lay_quick Mine.lookAt Mine.topAt
name_quick lookAtQ for Mine.lookAt by Mine.lookAt_rfl
name_quick topAtQ for Mine.topAt by Mine.topAt_rfl
theorem left_of {p q : Program} {lo : List Str} {R : WRecords} {K : Params → Frag} {as ts : List Addr} {e : ∀ P, as = (K P).map (·.1)}
    (h : ∀ w : World, PySem.W.Fast.topAtQ p q lo R as ts w = some (openGood q lo, ((K w.params).map fun p => some p.2, ts.map fun _ => some (tabObj #[])))) :
    LeftO p q lo (fun s => xlAt q [] s && recOk R s) (kmHook K as e ts).obs (kmHook K as e ts).val 3414 := fun w => by
  have h := h w
  rw [← PySem.W.Fast.topAtQ_eq] at h
  exact h
theorem look_ok : PySem.Challenge.rw_wv0033_01.wellSaid = true := by
  show lookAt PySem.Challenge.rw_wv0033_01 = true
  rw [PySem.W.Fast.lookAtQ_eq]
  kernel_rfl
end SHA
end Mine
namespace Mine
section SHB
open PySem PySem.W PyProof.Rows
set_option maxRecDepth 100000
set_option maxHeartbeats 8000000
section
local macro_rules | `(tactic| o_law) => `(tactic| refine holds_law look_ok fun said => ?_)
local macro_rules | `(tactic| o_head $H) => `(tactic| (
    refine holds_open (q := vw) (loose := loose) (Xt := fun s => xlAt vw [] s && recOk (RowW.records PySem.Challenge.rw_wv0033_01.row.toRowW) s) (XP := XL vw []) (Yf := Hook.obs $H) (Ya := Hook.val $H) (YP := Hook.says $H) (N := 3414) (left_of ?hl) (Hook.of $H) (Hook.keeps $H) (fun s e => xl_of s (Bool.and_eq_true_iff.mp e).1) XL.keeps (by rfl) (by rfl) (by rfl) (fun s e => recFacts_of (Bool.and_eq_true_iff.mp e).2) (by rfl) (by first | assumption | decide +kernel) (by decide +kernel) ⟨rfl, rfl, rfl, rfl, rfl, by decide +kernel⟩ ?hw ?hc
    (case hl => (intro w; kernel_rfl))))
open_top hd for PySem.Challenge.rw_wv0033_01
end
theorem top_off : True := by
  w_top off
  trivial
end SHB
end Mine
namespace Mine
section SPK
open PySem PySem.W PyProof.Rows PySem.Spec PySem.Calls
@[irreducible] noncomputable def pick {α : Type} (i : Nonempty α) (R : α → Prop) : α := @Classical.epsilon α i fun x => ¬ R x
theorem pick_spec {α : Type} {i : Nonempty α} {R : α → Prop} (h : R (pick i R)) (x : α) : R x := Classical.byContradiction fun hx => by
  unfold pick at h
  exact Classical.epsilon_spec (p := fun x => ¬ R x) ⟨x, hx⟩ h
noncomputable def pa {α β : Type} (x : α × β) : α := x.1
noncomputable def pb {α β : Type} (x : α × β) : β := x.2
theorem unitE {G : Prop} (h : Unit → G) : G := h ()
theorem world_is : Nonempty World := ⟨aWorld 1⟩
theorem around_is : Nonempty Around := ⟨callerA⟩
theorem shared_is : Nonempty Shared := ⟨(start vw).1⟩
noncomputable def r3 {A0 A1 A2 : Type} (P : A0 → A1 → A2 → Prop) (p : A0 × A1 × A2) : Prop := P (pa p) (pa (pb p)) (pb (pb p))
@[irreducible] noncomputable def pk3 {A0 A1 A2 : Type} (i : Nonempty (A0 × A1 × A2)) (P : A0 → A1 → A2 → Prop) : A0 × A1 × A2 := pick i (r3 P)
theorem pick3 {A0 A1 A2 : Type} (i : Nonempty (A0 × A1 × A2)) {P : A0 → A1 → A2 → Prop} (h : P (pa (pk3 i P)) (pa (pb (pk3 i P))) (pb (pb (pk3 i P)))) : ∀ x0 x1 x2, P x0 x1 x2 := fun x0 x1 x2 => pick_spec (R := r3 P) (by unfold pk3 at h; exact h) (x0, x1, x2)
noncomputable def r5 {A0 A1 A2 A3 A4 : Type} (P : A0 → A1 → A2 → A3 → A4 → Prop) (p : A0 × A1 × A2 × A3 × A4) : Prop := P (pa p) (pa (pb p)) (pa (pb (pb p))) (pa (pb (pb (pb p)))) (pb (pb (pb (pb p))))
@[irreducible] noncomputable def pk5 {A0 A1 A2 A3 A4 : Type} (i : Nonempty (A0 × A1 × A2 × A3 × A4)) (P : A0 → A1 → A2 → A3 → A4 → Prop) : A0 × A1 × A2 × A3 × A4 := pick i (r5 P)
theorem pick5 {A0 A1 A2 A3 A4 : Type} (i : Nonempty (A0 × A1 × A2 × A3 × A4)) {P : A0 → A1 → A2 → A3 → A4 → Prop} (h : P (pa (pk5 i P)) (pa (pb (pk5 i P))) (pa (pb (pb (pk5 i P)))) (pa (pb (pb (pb (pk5 i P))))) (pb (pb (pb (pb (pk5 i P)))))) : ∀ x0 x1 x2 x3 x4, P x0 x1 x2 x3 x4 := fun x0 x1 x2 x3 x4 => pick_spec (R := r5 P) (by unfold pk5 at h; exact h) (x0, x1, x2, x3, x4)
noncomputable def r12 {A0 A1 A2 A3 A4 A5 A6 A7 A8 A9 A10 A11 : Type} (P : A0 → A1 → A2 → A3 → A4 → A5 → A6 → A7 → A8 → A9 → A10 → A11 → Prop) (p : A0 × A1 × A2 × A3 × A4 × A5 × A6 × A7 × A8 × A9 × A10 × A11) : Prop := P (pa p) (pa (pb p)) (pa (pb (pb p))) (pa (pb (pb (pb p)))) (pa (pb (pb (pb (pb p))))) (pa (pb (pb (pb (pb (pb p)))))) (pa (pb (pb (pb (pb (pb (pb p))))))) (pa (pb (pb (pb (pb (pb (pb (pb p)))))))) (pa (pb (pb (pb (pb (pb (pb (pb (pb p))))))))) (pa (pb (pb (pb (pb (pb (pb (pb (pb (pb p)))))))))) (pa (pb (pb (pb (pb (pb (pb (pb (pb (pb (pb p))))))))))) (pb (pb (pb (pb (pb (pb (pb (pb (pb (pb (pb p)))))))))))
@[irreducible] noncomputable def pk12 {A0 A1 A2 A3 A4 A5 A6 A7 A8 A9 A10 A11 : Type} (i : Nonempty (A0 × A1 × A2 × A3 × A4 × A5 × A6 × A7 × A8 × A9 × A10 × A11)) (P : A0 → A1 → A2 → A3 → A4 → A5 → A6 → A7 → A8 → A9 → A10 → A11 → Prop) : A0 × A1 × A2 × A3 × A4 × A5 × A6 × A7 × A8 × A9 × A10 × A11 := pick i (r12 P)
theorem pick12 {A0 A1 A2 A3 A4 A5 A6 A7 A8 A9 A10 A11 : Type} (i : Nonempty (A0 × A1 × A2 × A3 × A4 × A5 × A6 × A7 × A8 × A9 × A10 × A11)) {P : A0 → A1 → A2 → A3 → A4 → A5 → A6 → A7 → A8 → A9 → A10 → A11 → Prop} (h : P (pa (pk12 i P)) (pa (pb (pk12 i P))) (pa (pb (pb (pk12 i P)))) (pa (pb (pb (pb (pk12 i P))))) (pa (pb (pb (pb (pb (pk12 i P)))))) (pa (pb (pb (pb (pb (pb (pk12 i P))))))) (pa (pb (pb (pb (pb (pb (pb (pk12 i P)))))))) (pa (pb (pb (pb (pb (pb (pb (pb (pk12 i P))))))))) (pa (pb (pb (pb (pb (pb (pb (pb (pb (pk12 i P)))))))))) (pa (pb (pb (pb (pb (pb (pb (pb (pb (pb (pk12 i P))))))))))) (pa (pb (pb (pb (pb (pb (pb (pb (pb (pb (pb (pk12 i P)))))))))))) (pb (pb (pb (pb (pb (pb (pb (pb (pb (pb (pb (pk12 i P))))))))))))) : ∀ x0 x1 x2 x3 x4 x5 x6 x7 x8 x9 x10 x11, P x0 x1 x2 x3 x4 x5 x6 x7 x8 x9 x10 x11 := fun x0 x1 x2 x3 x4 x5 x6 x7 x8 x9 x10 x11 => pick_spec (R := r12 P) (by unfold pk12 at h; exact h) (x0, x1, x2, x3, x4, x5, x6, x7, x8, x9, x10, x11)
noncomputable def r18 {A0 A1 A2 A3 A4 A5 A6 A7 A8 A9 A10 A11 A12 A13 A14 A15 A16 A17 : Type} (P : A0 → A1 → A2 → A3 → A4 → A5 → A6 → A7 → A8 → A9 → A10 → A11 → A12 → A13 → A14 → A15 → A16 → A17 → Prop) (p : A0 × A1 × A2 × A3 × A4 × A5 × A6 × A7 × A8 × A9 × A10 × A11 × A12 × A13 × A14 × A15 × A16 × A17) : Prop := P (pa p) (pa (pb p)) (pa (pb (pb p))) (pa (pb (pb (pb p)))) (pa (pb (pb (pb (pb p))))) (pa (pb (pb (pb (pb (pb p)))))) (pa (pb (pb (pb (pb (pb (pb p))))))) (pa (pb (pb (pb (pb (pb (pb (pb p)))))))) (pa (pb (pb (pb (pb (pb (pb (pb (pb p))))))))) (pa (pb (pb (pb (pb (pb (pb (pb (pb (pb p)))))))))) (pa (pb (pb (pb (pb (pb (pb (pb (pb (pb (pb p))))))))))) (pa (pb (pb (pb (pb (pb (pb (pb (pb (pb (pb (pb p)))))))))))) (pa (pb (pb (pb (pb (pb (pb (pb (pb (pb (pb (pb (pb p))))))))))))) (pa (pb (pb (pb (pb (pb (pb (pb (pb (pb (pb (pb (pb (pb p)))))))))))))) (pa (pb (pb (pb (pb (pb (pb (pb (pb (pb (pb (pb (pb (pb (pb p))))))))))))))) (pa (pb (pb (pb (pb (pb (pb (pb (pb (pb (pb (pb (pb (pb (pb (pb p)))))))))))))))) (pa (pb (pb (pb (pb (pb (pb (pb (pb (pb (pb (pb (pb (pb (pb (pb (pb p))))))))))))))))) (pb (pb (pb (pb (pb (pb (pb (pb (pb (pb (pb (pb (pb (pb (pb (pb (pb p)))))))))))))))))
@[irreducible] noncomputable def pk18 {A0 A1 A2 A3 A4 A5 A6 A7 A8 A9 A10 A11 A12 A13 A14 A15 A16 A17 : Type} (i : Nonempty (A0 × A1 × A2 × A3 × A4 × A5 × A6 × A7 × A8 × A9 × A10 × A11 × A12 × A13 × A14 × A15 × A16 × A17)) (P : A0 → A1 → A2 → A3 → A4 → A5 → A6 → A7 → A8 → A9 → A10 → A11 → A12 → A13 → A14 → A15 → A16 → A17 → Prop) : A0 × A1 × A2 × A3 × A4 × A5 × A6 × A7 × A8 × A9 × A10 × A11 × A12 × A13 × A14 × A15 × A16 × A17 := pick i (r18 P)
theorem pick18 {A0 A1 A2 A3 A4 A5 A6 A7 A8 A9 A10 A11 A12 A13 A14 A15 A16 A17 : Type} (i : Nonempty (A0 × A1 × A2 × A3 × A4 × A5 × A6 × A7 × A8 × A9 × A10 × A11 × A12 × A13 × A14 × A15 × A16 × A17)) {P : A0 → A1 → A2 → A3 → A4 → A5 → A6 → A7 → A8 → A9 → A10 → A11 → A12 → A13 → A14 → A15 → A16 → A17 → Prop} (h : P (pa (pk18 i P)) (pa (pb (pk18 i P))) (pa (pb (pb (pk18 i P)))) (pa (pb (pb (pb (pk18 i P))))) (pa (pb (pb (pb (pb (pk18 i P)))))) (pa (pb (pb (pb (pb (pb (pk18 i P))))))) (pa (pb (pb (pb (pb (pb (pb (pk18 i P)))))))) (pa (pb (pb (pb (pb (pb (pb (pb (pk18 i P))))))))) (pa (pb (pb (pb (pb (pb (pb (pb (pb (pk18 i P)))))))))) (pa (pb (pb (pb (pb (pb (pb (pb (pb (pb (pk18 i P))))))))))) (pa (pb (pb (pb (pb (pb (pb (pb (pb (pb (pb (pk18 i P)))))))))))) (pa (pb (pb (pb (pb (pb (pb (pb (pb (pb (pb (pb (pk18 i P))))))))))))) (pa (pb (pb (pb (pb (pb (pb (pb (pb (pb (pb (pb (pb (pk18 i P)))))))))))))) (pa (pb (pb (pb (pb (pb (pb (pb (pb (pb (pb (pb (pb (pb (pk18 i P))))))))))))))) (pa (pb (pb (pb (pb (pb (pb (pb (pb (pb (pb (pb (pb (pb (pb (pk18 i P)))))))))))))))) (pa (pb (pb (pb (pb (pb (pb (pb (pb (pb (pb (pb (pb (pb (pb (pb (pk18 i P))))))))))))))))) (pa (pb (pb (pb (pb (pb (pb (pb (pb (pb (pb (pb (pb (pb (pb (pb (pb (pk18 i P)))))))))))))))))) (pb (pb (pb (pb (pb (pb (pb (pb (pb (pb (pb (pb (pb (pb (pb (pb (pb (pk18 i P))))))))))))))))))) : ∀ x0 x1 x2 x3 x4 x5 x6 x7 x8 x9 x10 x11 x12 x13 x14 x15 x16 x17, P x0 x1 x2 x3 x4 x5 x6 x7 x8 x9 x10 x11 x12 x13 x14 x15 x16 x17 := fun x0 x1 x2 x3 x4 x5 x6 x7 x8 x9 x10 x11 x12 x13 x14 x15 x16 x17 => pick_spec (R := r18 P) (by unfold pk18 at h; exact h) (x0, x1, x2, x3, x4, x5, x6, x7, x8, x9, x10, x11, x12, x13, x14, x15, x16, x17)
noncomputable def r25 {A0 A1 A2 A3 A4 A5 A6 A7 A8 A9 A10 A11 A12 A13 A14 A15 A16 A17 A18 A19 A20 A21 A22 A23 A24 : Type} (P : A0 → A1 → A2 → A3 → A4 → A5 → A6 → A7 → A8 → A9 → A10 → A11 → A12 → A13 → A14 → A15 → A16 → A17 → A18 → A19 → A20 → A21 → A22 → A23 → A24 → Prop) (p : A0 × A1 × A2 × A3 × A4 × A5 × A6 × A7 × A8 × A9 × A10 × A11 × A12 × A13 × A14 × A15 × A16 × A17 × A18 × A19 × A20 × A21 × A22 × A23 × A24) : Prop := P (pa p) (pa (pb p)) (pa (pb (pb p))) (pa (pb (pb (pb p)))) (pa (pb (pb (pb (pb p))))) (pa (pb (pb (pb (pb (pb p)))))) (pa (pb (pb (pb (pb (pb (pb p))))))) (pa (pb (pb (pb (pb (pb (pb (pb p)))))))) (pa (pb (pb (pb (pb (pb (pb (pb (pb p))))))))) (pa (pb (pb (pb (pb (pb (pb (pb (pb (pb p)))))))))) (pa (pb (pb (pb (pb (pb (pb (pb (pb (pb (pb p))))))))))) (pa (pb (pb (pb (pb (pb (pb (pb (pb (pb (pb (pb p)))))))))))) (pa (pb (pb (pb (pb (pb (pb (pb (pb (pb (pb (pb (pb p))))))))))))) (pa (pb (pb (pb (pb (pb (pb (pb (pb (pb (pb (pb (pb (pb p)))))))))))))) (pa (pb (pb (pb (pb (pb (pb (pb (pb (pb (pb (pb (pb (pb (pb p))))))))))))))) (pa (pb (pb (pb (pb (pb (pb (pb (pb (pb (pb (pb (pb (pb (pb (pb p)))))))))))))))) (pa (pb (pb (pb (pb (pb (pb (pb (pb (pb (pb (pb (pb (pb (pb (pb (pb p))))))))))))))))) (pa (pb (pb (pb (pb (pb (pb (pb (pb (pb (pb (pb (pb (pb (pb (pb (pb (pb p)))))))))))))))))) (pa (pb (pb (pb (pb (pb (pb (pb (pb (pb (pb (pb (pb (pb (pb (pb (pb (pb (pb p))))))))))))))))))) (pa (pb (pb (pb (pb (pb (pb (pb (pb (pb (pb (pb (pb (pb (pb (pb (pb (pb (pb (pb p)))))))))))))))))))) (pa (pb (pb (pb (pb (pb (pb (pb (pb (pb (pb (pb (pb (pb (pb (pb (pb (pb (pb (pb (pb p))))))))))))))))))))) (pa (pb (pb (pb (pb (pb (pb (pb (pb (pb (pb (pb (pb (pb (pb (pb (pb (pb (pb (pb (pb (pb p)))))))))))))))))))))) (pa (pb (pb (pb (pb (pb (pb (pb (pb (pb (pb (pb (pb (pb (pb (pb (pb (pb (pb (pb (pb (pb (pb p))))))))))))))))))))))) (pa (pb (pb (pb (pb (pb (pb (pb (pb (pb (pb (pb (pb (pb (pb (pb (pb (pb (pb (pb (pb (pb (pb (pb p)))))))))))))))))))))))) (pb (pb (pb (pb (pb (pb (pb (pb (pb (pb (pb (pb (pb (pb (pb (pb (pb (pb (pb (pb (pb (pb (pb (pb p))))))))))))))))))))))))
@[irreducible] noncomputable def pk25 {A0 A1 A2 A3 A4 A5 A6 A7 A8 A9 A10 A11 A12 A13 A14 A15 A16 A17 A18 A19 A20 A21 A22 A23 A24 : Type} (i : Nonempty (A0 × A1 × A2 × A3 × A4 × A5 × A6 × A7 × A8 × A9 × A10 × A11 × A12 × A13 × A14 × A15 × A16 × A17 × A18 × A19 × A20 × A21 × A22 × A23 × A24)) (P : A0 → A1 → A2 → A3 → A4 → A5 → A6 → A7 → A8 → A9 → A10 → A11 → A12 → A13 → A14 → A15 → A16 → A17 → A18 → A19 → A20 → A21 → A22 → A23 → A24 → Prop) : A0 × A1 × A2 × A3 × A4 × A5 × A6 × A7 × A8 × A9 × A10 × A11 × A12 × A13 × A14 × A15 × A16 × A17 × A18 × A19 × A20 × A21 × A22 × A23 × A24 := pick i (r25 P)
theorem pick25 {A0 A1 A2 A3 A4 A5 A6 A7 A8 A9 A10 A11 A12 A13 A14 A15 A16 A17 A18 A19 A20 A21 A22 A23 A24 : Type} (i : Nonempty (A0 × A1 × A2 × A3 × A4 × A5 × A6 × A7 × A8 × A9 × A10 × A11 × A12 × A13 × A14 × A15 × A16 × A17 × A18 × A19 × A20 × A21 × A22 × A23 × A24)) {P : A0 → A1 → A2 → A3 → A4 → A5 → A6 → A7 → A8 → A9 → A10 → A11 → A12 → A13 → A14 → A15 → A16 → A17 → A18 → A19 → A20 → A21 → A22 → A23 → A24 → Prop} (h : P (pa (pk25 i P)) (pa (pb (pk25 i P))) (pa (pb (pb (pk25 i P)))) (pa (pb (pb (pb (pk25 i P))))) (pa (pb (pb (pb (pb (pk25 i P)))))) (pa (pb (pb (pb (pb (pb (pk25 i P))))))) (pa (pb (pb (pb (pb (pb (pb (pk25 i P)))))))) (pa (pb (pb (pb (pb (pb (pb (pb (pk25 i P))))))))) (pa (pb (pb (pb (pb (pb (pb (pb (pb (pk25 i P)))))))))) (pa (pb (pb (pb (pb (pb (pb (pb (pb (pb (pk25 i P))))))))))) (pa (pb (pb (pb (pb (pb (pb (pb (pb (pb (pb (pk25 i P)))))))))))) (pa (pb (pb (pb (pb (pb (pb (pb (pb (pb (pb (pb (pk25 i P))))))))))))) (pa (pb (pb (pb (pb (pb (pb (pb (pb (pb (pb (pb (pb (pk25 i P)))))))))))))) (pa (pb (pb (pb (pb (pb (pb (pb (pb (pb (pb (pb (pb (pb (pk25 i P))))))))))))))) (pa (pb (pb (pb (pb (pb (pb (pb (pb (pb (pb (pb (pb (pb (pb (pk25 i P)))))))))))))))) (pa (pb (pb (pb (pb (pb (pb (pb (pb (pb (pb (pb (pb (pb (pb (pb (pk25 i P))))))))))))))))) (pa (pb (pb (pb (pb (pb (pb (pb (pb (pb (pb (pb (pb (pb (pb (pb (pb (pk25 i P)))))))))))))))))) (pa (pb (pb (pb (pb (pb (pb (pb (pb (pb (pb (pb (pb (pb (pb (pb (pb (pb (pk25 i P))))))))))))))))))) (pa (pb (pb (pb (pb (pb (pb (pb (pb (pb (pb (pb (pb (pb (pb (pb (pb (pb (pb (pk25 i P)))))))))))))))))))) (pa (pb (pb (pb (pb (pb (pb (pb (pb (pb (pb (pb (pb (pb (pb (pb (pb (pb (pb (pb (pk25 i P))))))))))))))))))))) (pa (pb (pb (pb (pb (pb (pb (pb (pb (pb (pb (pb (pb (pb (pb (pb (pb (pb (pb (pb (pb (pk25 i P)))))))))))))))))))))) (pa (pb (pb (pb (pb (pb (pb (pb (pb (pb (pb (pb (pb (pb (pb (pb (pb (pb (pb (pb (pb (pb (pk25 i P))))))))))))))))))))))) (pa (pb (pb (pb (pb (pb (pb (pb (pb (pb (pb (pb (pb (pb (pb (pb (pb (pb (pb (pb (pb (pb (pb (pk25 i P)))))))))))))))))))))))) (pa (pb (pb (pb (pb (pb (pb (pb (pb (pb (pb (pb (pb (pb (pb (pb (pb (pb (pb (pb (pb (pb (pb (pb (pk25 i P))))))))))))))))))))))))) (pb (pb (pb (pb (pb (pb (pb (pb (pb (pb (pb (pb (pb (pb (pb (pb (pb (pb (pb (pb (pb (pb (pb (pb (pk25 i P)))))))))))))))))))))))))) : ∀ x0 x1 x2 x3 x4 x5 x6 x7 x8 x9 x10 x11 x12 x13 x14 x15 x16 x17 x18 x19 x20 x21 x22 x23 x24, P x0 x1 x2 x3 x4 x5 x6 x7 x8 x9 x10 x11 x12 x13 x14 x15 x16 x17 x18 x19 x20 x21 x22 x23 x24 := fun x0 x1 x2 x3 x4 x5 x6 x7 x8 x9 x10 x11 x12 x13 x14 x15 x16 x17 x18 x19 x20 x21 x22 x23 x24 => pick_spec (R := r25 P) (by unfold pk25 at h; exact h) (x0, x1, x2, x3, x4, x5, x6, x7, x8, x9, x10, x11, x12, x13, x14, x15, x16, x17, x18, x19, x20, x21, x22, x23, x24)
noncomputable def r32 {A0 A1 A2 A3 A4 A5 A6 A7 A8 A9 A10 A11 A12 A13 A14 A15 A16 A17 A18 A19 A20 A21 A22 A23 A24 A25 A26 A27 A28 A29 A30 A31 : Type} (P : A0 → A1 → A2 → A3 → A4 → A5 → A6 → A7 → A8 → A9 → A10 → A11 → A12 → A13 → A14 → A15 → A16 → A17 → A18 → A19 → A20 → A21 → A22 → A23 → A24 → A25 → A26 → A27 → A28 → A29 → A30 → A31 → Prop) (p : A0 × A1 × A2 × A3 × A4 × A5 × A6 × A7 × A8 × A9 × A10 × A11 × A12 × A13 × A14 × A15 × A16 × A17 × A18 × A19 × A20 × A21 × A22 × A23 × A24 × A25 × A26 × A27 × A28 × A29 × A30 × A31) : Prop := P (pa p) (pa (pb p)) (pa (pb (pb p))) (pa (pb (pb (pb p)))) (pa (pb (pb (pb (pb p))))) (pa (pb (pb (pb (pb (pb p)))))) (pa (pb (pb (pb (pb (pb (pb p))))))) (pa (pb (pb (pb (pb (pb (pb (pb p)))))))) (pa (pb (pb (pb (pb (pb (pb (pb (pb p))))))))) (pa (pb (pb (pb (pb (pb (pb (pb (pb (pb p)))))))))) (pa (pb (pb (pb (pb (pb (pb (pb (pb (pb (pb p))))))))))) (pa (pb (pb (pb (pb (pb (pb (pb (pb (pb (pb (pb p)))))))))))) (pa (pb (pb (pb (pb (pb (pb (pb (pb (pb (pb (pb (pb p))))))))))))) (pa (pb (pb (pb (pb (pb (pb (pb (pb (pb (pb (pb (pb (pb p)))))))))))))) (pa (pb (pb (pb (pb (pb (pb (pb (pb (pb (pb (pb (pb (pb (pb p))))))))))))))) (pa (pb (pb (pb (pb (pb (pb (pb (pb (pb (pb (pb (pb (pb (pb (pb p)))))))))))))))) (pa (pb (pb (pb (pb (pb (pb (pb (pb (pb (pb (pb (pb (pb (pb (pb (pb p))))))))))))))))) (pa (pb (pb (pb (pb (pb (pb (pb (pb (pb (pb (pb (pb (pb (pb (pb (pb (pb p)))))))))))))))))) (pa (pb (pb (pb (pb (pb (pb (pb (pb (pb (pb (pb (pb (pb (pb (pb (pb (pb (pb p))))))))))))))))))) (pa (pb (pb (pb (pb (pb (pb (pb (pb (pb (pb (pb (pb (pb (pb (pb (pb (pb (pb (pb p)))))))))))))))))))) (pa (pb (pb (pb (pb (pb (pb (pb (pb (pb (pb (pb (pb (pb (pb (pb (pb (pb (pb (pb (pb p))))))))))))))))))))) (pa (pb (pb (pb (pb (pb (pb (pb (pb (pb (pb (pb (pb (pb (pb (pb (pb (pb (pb (pb (pb (pb p)))))))))))))))))))))) (pa (pb (pb (pb (pb (pb (pb (pb (pb (pb (pb (pb (pb (pb (pb (pb (pb (pb (pb (pb (pb (pb (pb p))))))))))))))))))))))) (pa (pb (pb (pb (pb (pb (pb (pb (pb (pb (pb (pb (pb (pb (pb (pb (pb (pb (pb (pb (pb (pb (pb (pb p)))))))))))))))))))))))) (pa (pb (pb (pb (pb (pb (pb (pb (pb (pb (pb (pb (pb (pb (pb (pb (pb (pb (pb (pb (pb (pb (pb (pb (pb p))))))))))))))))))))))))) (pa (pb (pb (pb (pb (pb (pb (pb (pb (pb (pb (pb (pb (pb (pb (pb (pb (pb (pb (pb (pb (pb (pb (pb (pb (pb p)))))))))))))))))))))))))) (pa (pb (pb (pb (pb (pb (pb (pb (pb (pb (pb (pb (pb (pb (pb (pb (pb (pb (pb (pb (pb (pb (pb (pb (pb (pb (pb p))))))))))))))))))))))))))) (pa (pb (pb (pb (pb (pb (pb (pb (pb (pb (pb (pb (pb (pb (pb (pb (pb (pb (pb (pb (pb (pb (pb (pb (pb (pb (pb (pb p)))))))))))))))))))))))))))) (pa (pb (pb (pb (pb (pb (pb (pb (pb (pb (pb (pb (pb (pb (pb (pb (pb (pb (pb (pb (pb (pb (pb (pb (pb (pb (pb (pb (pb p))))))))))))))))))))))))))))) (pa (pb (pb (pb (pb (pb (pb (pb (pb (pb (pb (pb (pb (pb (pb (pb (pb (pb (pb (pb (pb (pb (pb (pb (pb (pb (pb (pb (pb (pb p)))))))))))))))))))))))))))))) (pa (pb (pb (pb (pb (pb (pb (pb (pb (pb (pb (pb (pb (pb (pb (pb (pb (pb (pb (pb (pb (pb (pb (pb (pb (pb (pb (pb (pb (pb (pb p))))))))))))))))))))))))))))))) (pb (pb (pb (pb (pb (pb (pb (pb (pb (pb (pb (pb (pb (pb (pb (pb (pb (pb (pb (pb (pb (pb (pb (pb (pb (pb (pb (pb (pb (pb (pb p)))))))))))))))))))))))))))))))
@[irreducible] noncomputable def pk32 {A0 A1 A2 A3 A4 A5 A6 A7 A8 A9 A10 A11 A12 A13 A14 A15 A16 A17 A18 A19 A20 A21 A22 A23 A24 A25 A26 A27 A28 A29 A30 A31 : Type} (i : Nonempty (A0 × A1 × A2 × A3 × A4 × A5 × A6 × A7 × A8 × A9 × A10 × A11 × A12 × A13 × A14 × A15 × A16 × A17 × A18 × A19 × A20 × A21 × A22 × A23 × A24 × A25 × A26 × A27 × A28 × A29 × A30 × A31)) (P : A0 → A1 → A2 → A3 → A4 → A5 → A6 → A7 → A8 → A9 → A10 → A11 → A12 → A13 → A14 → A15 → A16 → A17 → A18 → A19 → A20 → A21 → A22 → A23 → A24 → A25 → A26 → A27 → A28 → A29 → A30 → A31 → Prop) : A0 × A1 × A2 × A3 × A4 × A5 × A6 × A7 × A8 × A9 × A10 × A11 × A12 × A13 × A14 × A15 × A16 × A17 × A18 × A19 × A20 × A21 × A22 × A23 × A24 × A25 × A26 × A27 × A28 × A29 × A30 × A31 := pick i (r32 P)
theorem pick32 {A0 A1 A2 A3 A4 A5 A6 A7 A8 A9 A10 A11 A12 A13 A14 A15 A16 A17 A18 A19 A20 A21 A22 A23 A24 A25 A26 A27 A28 A29 A30 A31 : Type} (i : Nonempty (A0 × A1 × A2 × A3 × A4 × A5 × A6 × A7 × A8 × A9 × A10 × A11 × A12 × A13 × A14 × A15 × A16 × A17 × A18 × A19 × A20 × A21 × A22 × A23 × A24 × A25 × A26 × A27 × A28 × A29 × A30 × A31)) {P : A0 → A1 → A2 → A3 → A4 → A5 → A6 → A7 → A8 → A9 → A10 → A11 → A12 → A13 → A14 → A15 → A16 → A17 → A18 → A19 → A20 → A21 → A22 → A23 → A24 → A25 → A26 → A27 → A28 → A29 → A30 → A31 → Prop} (h : P (pa (pk32 i P)) (pa (pb (pk32 i P))) (pa (pb (pb (pk32 i P)))) (pa (pb (pb (pb (pk32 i P))))) (pa (pb (pb (pb (pb (pk32 i P)))))) (pa (pb (pb (pb (pb (pb (pk32 i P))))))) (pa (pb (pb (pb (pb (pb (pb (pk32 i P)))))))) (pa (pb (pb (pb (pb (pb (pb (pb (pk32 i P))))))))) (pa (pb (pb (pb (pb (pb (pb (pb (pb (pk32 i P)))))))))) (pa (pb (pb (pb (pb (pb (pb (pb (pb (pb (pk32 i P))))))))))) (pa (pb (pb (pb (pb (pb (pb (pb (pb (pb (pb (pk32 i P)))))))))))) (pa (pb (pb (pb (pb (pb (pb (pb (pb (pb (pb (pb (pk32 i P))))))))))))) (pa (pb (pb (pb (pb (pb (pb (pb (pb (pb (pb (pb (pb (pk32 i P)))))))))))))) (pa (pb (pb (pb (pb (pb (pb (pb (pb (pb (pb (pb (pb (pb (pk32 i P))))))))))))))) (pa (pb (pb (pb (pb (pb (pb (pb (pb (pb (pb (pb (pb (pb (pb (pk32 i P)))))))))))))))) (pa (pb (pb (pb (pb (pb (pb (pb (pb (pb (pb (pb (pb (pb (pb (pb (pk32 i P))))))))))))))))) (pa (pb (pb (pb (pb (pb (pb (pb (pb (pb (pb (pb (pb (pb (pb (pb (pb (pk32 i P)))))))))))))))))) (pa (pb (pb (pb (pb (pb (pb (pb (pb (pb (pb (pb (pb (pb (pb (pb (pb (pb (pk32 i P))))))))))))))))))) (pa (pb (pb (pb (pb (pb (pb (pb (pb (pb (pb (pb (pb (pb (pb (pb (pb (pb (pb (pk32 i P)))))))))))))))))))) (pa (pb (pb (pb (pb (pb (pb (pb (pb (pb (pb (pb (pb (pb (pb (pb (pb (pb (pb (pb (pk32 i P))))))))))))))))))))) (pa (pb (pb (pb (pb (pb (pb (pb (pb (pb (pb (pb (pb (pb (pb (pb (pb (pb (pb (pb (pb (pk32 i P)))))))))))))))))))))) (pa (pb (pb (pb (pb (pb (pb (pb (pb (pb (pb (pb (pb (pb (pb (pb (pb (pb (pb (pb (pb (pb (pk32 i P))))))))))))))))))))))) (pa (pb (pb (pb (pb (pb (pb (pb (pb (pb (pb (pb (pb (pb (pb (pb (pb (pb (pb (pb (pb (pb (pb (pk32 i P)))))))))))))))))))))))) (pa (pb (pb (pb (pb (pb (pb (pb (pb (pb (pb (pb (pb (pb (pb (pb (pb (pb (pb (pb (pb (pb (pb (pb (pk32 i P))))))))))))))))))))))))) (pa (pb (pb (pb (pb (pb (pb (pb (pb (pb (pb (pb (pb (pb (pb (pb (pb (pb (pb (pb (pb (pb (pb (pb (pb (pk32 i P)))))))))))))))))))))))))) (pa (pb (pb (pb (pb (pb (pb (pb (pb (pb (pb (pb (pb (pb (pb (pb (pb (pb (pb (pb (pb (pb (pb (pb (pb (pb (pk32 i P))))))))))))))))))))))))))) (pa (pb (pb (pb (pb (pb (pb (pb (pb (pb (pb (pb (pb (pb (pb (pb (pb (pb (pb (pb (pb (pb (pb (pb (pb (pb (pb (pk32 i P)))))))))))))))))))))))))))) (pa (pb (pb (pb (pb (pb (pb (pb (pb (pb (pb (pb (pb (pb (pb (pb (pb (pb (pb (pb (pb (pb (pb (pb (pb (pb (pb (pb (pk32 i P))))))))))))))))))))))))))))) (pa (pb (pb (pb (pb (pb (pb (pb (pb (pb (pb (pb (pb (pb (pb (pb (pb (pb (pb (pb (pb (pb (pb (pb (pb (pb (pb (pb (pb (pk32 i P)))))))))))))))))))))))))))))) (pa (pb (pb (pb (pb (pb (pb (pb (pb (pb (pb (pb (pb (pb (pb (pb (pb (pb (pb (pb (pb (pb (pb (pb (pb (pb (pb (pb (pb (pb (pk32 i P))))))))))))))))))))))))))))))) (pa (pb (pb (pb (pb (pb (pb (pb (pb (pb (pb (pb (pb (pb (pb (pb (pb (pb (pb (pb (pb (pb (pb (pb (pb (pb (pb (pb (pb (pb (pb (pk32 i P)))))))))))))))))))))))))))))))) (pb (pb (pb (pb (pb (pb (pb (pb (pb (pb (pb (pb (pb (pb (pb (pb (pb (pb (pb (pb (pb (pb (pb (pb (pb (pb (pb (pb (pb (pb (pb (pk32 i P))))))))))))))))))))))))))))))))) : ∀ x0 x1 x2 x3 x4 x5 x6 x7 x8 x9 x10 x11 x12 x13 x14 x15 x16 x17 x18 x19 x20 x21 x22 x23 x24 x25 x26 x27 x28 x29 x30 x31, P x0 x1 x2 x3 x4 x5 x6 x7 x8 x9 x10 x11 x12 x13 x14 x15 x16 x17 x18 x19 x20 x21 x22 x23 x24 x25 x26 x27 x28 x29 x30 x31 := fun x0 x1 x2 x3 x4 x5 x6 x7 x8 x9 x10 x11 x12 x13 x14 x15 x16 x17 x18 x19 x20 x21 x22 x23 x24 x25 x26 x27 x28 x29 x30 x31 => pick_spec (R := r32 P) (by unfold pk32 at h; exact h) (x0, x1, x2, x3, x4, x5, x6, x7, x8, x9, x10, x11, x12, x13, x14, x15, x16, x17, x18, x19, x20, x21, x22, x23, x24, x25, x26, x27, x28, x29, x30, x31)
structure QK (Q : Flow → Shared → Prop) (f : Flow) (s : Shared) : Prop where
  out : Q f s
theorem cut_post {M : Model} {A : Around} {t : Sem Flow} {E : Value → Shared → Prop} {s : Shared} {R : Flow → Shared → Prop} (h : ∀ Q', (∀ f s', R f s' → Q' f s') → wpAny M A t (QK Q') E s) : wpAny M A t R E s :=
  wpAny_mono (h R fun _ _ x => x) (fun _ _ x => x.out) fun _ _ x => x
theorem execs_cut {prog : Program} {w : World} {A : Around} {E : Value → Shared → Prop} {s : Shared} {env : Env} {st : Stmt} {rest : List Stmt} {Q : Flow → Shared → Prop}
    (h : ∀ Q', (∀ f s', (match f with | .next => wpAny (model prog w) A (execs rest env) Q E s' | f => Q f s') → Q' f s') → wpAny (model prog w) A (exec st env) (QK Q') E s) : wpAny (model prog w) A (execs (st :: rest) env) Q E s :=
  wpAny_execs_cons (cut_post h)
theorem QK.fin {Q' R : Flow → Shared → Prop} {f : Flow} {s : Shared} (hQ : ∀ f s', R f s' → Q' f s') (h : R f s) : QK Q' f s := ⟨hQ f s h⟩
theorem sub_nil {α : Type} {l : List α} : ∀ p ∈ ([] : List α), p ∈ l := fun _ h => nomatch h
theorem sub_cons {α : Type} {l : List α} {a : α} {r : List α} (h : a ∈ l) (t : ∀ p ∈ r, p ∈ l) : ∀ p ∈ a :: r, p ∈ l := fun p hp => (List.mem_cons.mp hp).elim (fun e => e ▸ h) (t p)
theorem sub_app {α : Type} {l : List α} {X Y : List α} (h : ∀ p ∈ X, p ∈ l) (t : ∀ p ∈ Y, p ∈ l) : ∀ p ∈ X ++ Y, p ∈ l := fun p hp => (List.mem_append.mp hp).elim (h p) (t p)
theorem sub_self {α : Type} {X : List α} : ∀ p ∈ X, p ∈ X := fun _ h => h
theorem sub_tail {α : Type} {X : List α} {a : α} {r : List α} (h : ∀ p ∈ X, p ∈ r) : ∀ p ∈ X, p ∈ a :: r := fun p hp => List.mem_cons_of_mem _ (h p hp)
theorem sub_left {α : Type} {X : List α} {Y Z : List α} (h : ∀ p ∈ X, p ∈ Y) : ∀ p ∈ X, p ∈ Y ++ Z := fun p hp => List.mem_append_left _ (h p hp)
theorem sub_right {α : Type} {X : List α} {Y Z : List α} (h : ∀ p ∈ X, p ∈ Z) : ∀ p ∈ X, p ∈ Y ++ Z := fun p hp => List.mem_append_right _ (h p hp)
theorem in_head {α : Type} {a : α} {r : List α} : a ∈ a :: r := List.mem_cons_self ..
theorem in_tail {α : Type} {a : α} {b : α} {r : List α} (h : a ∈ r) : a ∈ b :: r := List.mem_cons_of_mem _ h
theorem in_left {α : Type} {a : α} {Y Z : List α} (h : a ∈ Y) : a ∈ Y ++ Z := List.mem_append_left _ h
theorem in_right {α : Type} {a : α} {Y Z : List α} (h : a ∈ Z) : a ∈ Y ++ Z := List.mem_append_right _ h
theorem cons_of {α : Type} {l : List α} {n : Nat} (h : l.length = n + 1) : ∃ a r, l = a :: r ∧ r.length = n := by
  cases l with
  | nil => exact nomatch h
  | cons a r => exact ⟨a, r, rfl, Nat.succ.inj h⟩
theorem nil_of {α : Type} {l : List α} (h : l.length = 0) : l = [] := List.eq_nil_of_length_eq_zero h
theorem two_of {α : Type} {l : List α} (h : l.length = 2) : ∃ a b, l = [a, b] :=
  (cons_of h).elim fun a h => h.elim fun r h => (cons_of h.2).elim fun b q => q.elim fun r' q => ⟨a, b, h.1.trans (congrArg _ (q.1.trans (congrArg _ (nil_of q.2))))⟩
theorem three_len {α : Type} {l : List α} (h : l.length = 3) : ∃ a b c, l = [a, b, c] :=
  (cons_of h).elim fun a h => h.elim fun _ h => (two_of h.2).elim fun b q => q.elim fun c q => ⟨a, b, c, h.1.trans (congrArg _ q)⟩
theorem four_of {α : Type} {l : List α} (h : l.length = 4) : ∃ a b c d, l = [a, b, c, d] :=
  (cons_of h).elim fun a h => h.elim fun _ h => (three_len h.2).elim fun b q => q.elim fun c q => q.elim fun d q => ⟨a, b, c, d, h.1.trans (congrArg _ q)⟩
theorem five_of {α : Type} {l : List α} (h : l.length = 5) : ∃ a b c d e, l = [a, b, c, d, e] :=
  (cons_of h).elim fun a h => h.elim fun _ h => (four_of h.2).elim fun b q => q.elim fun c q => q.elim fun d q => q.elim fun e q => ⟨a, b, c, d, e, h.1.trans (congrArg _ q)⟩
theorem prs5 {α β : Type} {l : List (α × β)} {a b c d e : α} (h : l.map (·.1) = [a, b, c, d, e]) : ∃ t0 t1 t2 t3 t4, l = [(a, t0), (b, t1), (c, t2), (d, t3), (e, t4)] := by
  obtain ⟨p0, p1, p2, p3, p4, rfl⟩ := five_of ((List.length_map ..).symm.trans (congrArg List.length h))
  have h : [p0.1, p1.1, p2.1, p3.1, p4.1] = [a, b, c, d, e] := h
  have q0 := List.cons.inj h
  have q1 := List.cons.inj q0.2
  have q2 := List.cons.inj q1.2
  have q3 := List.cons.inj q2.2
  exact ⟨p0.2, p1.2, p2.2, p3.2, p4.2, by rw [← q0.1, ← q1.1, ← q2.1, ← q3.1, ← (List.cons.inj q3.2).1]⟩
theorem exA1_1 {α0 : Type} {a0 : α0 → Prop} {G : Prop} (h : ∃ x0, a0 x0) (f : ∀ x0, a0 x0 → G) : G := h.elim f
theorem exA2_1 {α0 α1 : Type} {a0 : α0 → α1 → Prop} {G : Prop} (h : ∃ x0 x1, a0 x0 x1) (f : ∀ x0 x1, a0 x0 x1 → G) : G := h.elim fun x q => exA1_1 q (f x)
theorem exA3_1 {α0 α1 α2 : Type} {a0 : α0 → α1 → α2 → Prop} {G : Prop} (h : ∃ x0 x1 x2, a0 x0 x1 x2) (f : ∀ x0 x1 x2, a0 x0 x1 x2 → G) : G := h.elim fun x q => exA2_1 q (f x)
theorem exA4_1 {α0 α1 α2 α3 : Type} {a0 : α0 → α1 → α2 → α3 → Prop} {G : Prop} (h : ∃ x0 x1 x2 x3, a0 x0 x1 x2 x3) (f : ∀ x0 x1 x2 x3, a0 x0 x1 x2 x3 → G) : G := h.elim fun x q => exA3_1 q (f x)
theorem exA5_1 {α0 α1 α2 α3 α4 : Type} {a0 : α0 → α1 → α2 → α3 → α4 → Prop} {G : Prop} (h : ∃ x0 x1 x2 x3 x4, a0 x0 x1 x2 x3 x4) (f : ∀ x0 x1 x2 x3 x4, a0 x0 x1 x2 x3 x4 → G) : G := h.elim fun x q => exA4_1 q (f x)
theorem exA6_1 {α0 α1 α2 α3 α4 α5 : Type} {a0 : α0 → α1 → α2 → α3 → α4 → α5 → Prop} {G : Prop} (h : ∃ x0 x1 x2 x3 x4 x5, a0 x0 x1 x2 x3 x4 x5) (f : ∀ x0 x1 x2 x3 x4 x5, a0 x0 x1 x2 x3 x4 x5 → G) : G := h.elim fun x q => exA5_1 q (f x)
theorem exA7_1 {α0 α1 α2 α3 α4 α5 α6 : Type} {a0 : α0 → α1 → α2 → α3 → α4 → α5 → α6 → Prop} {G : Prop} (h : ∃ x0 x1 x2 x3 x4 x5 x6, a0 x0 x1 x2 x3 x4 x5 x6) (f : ∀ x0 x1 x2 x3 x4 x5 x6, a0 x0 x1 x2 x3 x4 x5 x6 → G) : G := h.elim fun x q => exA6_1 q (f x)
theorem exA8_1 {α0 α1 α2 α3 α4 α5 α6 α7 : Type} {a0 : α0 → α1 → α2 → α3 → α4 → α5 → α6 → α7 → Prop} {G : Prop} (h : ∃ x0 x1 x2 x3 x4 x5 x6 x7, a0 x0 x1 x2 x3 x4 x5 x6 x7) (f : ∀ x0 x1 x2 x3 x4 x5 x6 x7, a0 x0 x1 x2 x3 x4 x5 x6 x7 → G) : G := h.elim fun x q => exA7_1 q (f x)
theorem exA9_1 {α0 α1 α2 α3 α4 α5 α6 α7 α8 : Type} {a0 : α0 → α1 → α2 → α3 → α4 → α5 → α6 → α7 → α8 → Prop} {G : Prop} (h : ∃ x0 x1 x2 x3 x4 x5 x6 x7 x8, a0 x0 x1 x2 x3 x4 x5 x6 x7 x8) (f : ∀ x0 x1 x2 x3 x4 x5 x6 x7 x8, a0 x0 x1 x2 x3 x4 x5 x6 x7 x8 → G) : G := h.elim fun x q => exA8_1 q (f x)
theorem exA0_2 {a0 a1 : Prop} {G : Prop} (h : a0 ∧ a1) (f : a0 → a1 → G) : G := f h.1 h.2
theorem exA1_2 {α0 : Type} {a0 a1 : α0 → Prop} {G : Prop} (h : ∃ x0, a0 x0 ∧ a1 x0) (f : ∀ x0, a0 x0 → a1 x0 → G) : G := h.elim fun x q => exA0_2 q (f x)
theorem exA2_2 {α0 α1 : Type} {a0 a1 : α0 → α1 → Prop} {G : Prop} (h : ∃ x0 x1, a0 x0 x1 ∧ a1 x0 x1) (f : ∀ x0 x1, a0 x0 x1 → a1 x0 x1 → G) : G := h.elim fun x q => exA1_2 q (f x)
theorem exA3_2 {α0 α1 α2 : Type} {a0 a1 : α0 → α1 → α2 → Prop} {G : Prop} (h : ∃ x0 x1 x2, a0 x0 x1 x2 ∧ a1 x0 x1 x2) (f : ∀ x0 x1 x2, a0 x0 x1 x2 → a1 x0 x1 x2 → G) : G := h.elim fun x q => exA2_2 q (f x)
theorem exA0_3 {a0 a1 a2 : Prop} {G : Prop} (h : a0 ∧ a1 ∧ a2) (f : a0 → a1 → a2 → G) : G := exA0_2 h.2 (f h.1)
theorem exA1_3 {α0 : Type} {a0 a1 a2 : α0 → Prop} {G : Prop} (h : ∃ x0, a0 x0 ∧ a1 x0 ∧ a2 x0) (f : ∀ x0, a0 x0 → a1 x0 → a2 x0 → G) : G := h.elim fun x q => exA0_3 q (f x)
theorem exA2_3 {α0 α1 : Type} {a0 a1 a2 : α0 → α1 → Prop} {G : Prop} (h : ∃ x0 x1, a0 x0 x1 ∧ a1 x0 x1 ∧ a2 x0 x1) (f : ∀ x0 x1, a0 x0 x1 → a1 x0 x1 → a2 x0 x1 → G) : G := h.elim fun x q => exA1_3 q (f x)
theorem exA3_3 {α0 α1 α2 : Type} {a0 a1 a2 : α0 → α1 → α2 → Prop} {G : Prop} (h : ∃ x0 x1 x2, a0 x0 x1 x2 ∧ a1 x0 x1 x2 ∧ a2 x0 x1 x2) (f : ∀ x0 x1 x2, a0 x0 x1 x2 → a1 x0 x1 x2 → a2 x0 x1 x2 → G) : G := h.elim fun x q => exA2_3 q (f x)
theorem exA4_3 {α0 α1 α2 α3 : Type} {a0 a1 a2 : α0 → α1 → α2 → α3 → Prop} {G : Prop} (h : ∃ x0 x1 x2 x3, a0 x0 x1 x2 x3 ∧ a1 x0 x1 x2 x3 ∧ a2 x0 x1 x2 x3) (f : ∀ x0 x1 x2 x3, a0 x0 x1 x2 x3 → a1 x0 x1 x2 x3 → a2 x0 x1 x2 x3 → G) : G := h.elim fun x q => exA3_3 q (f x)
theorem exA5_3 {α0 α1 α2 α3 α4 : Type} {a0 a1 a2 : α0 → α1 → α2 → α3 → α4 → Prop} {G : Prop} (h : ∃ x0 x1 x2 x3 x4, a0 x0 x1 x2 x3 x4 ∧ a1 x0 x1 x2 x3 x4 ∧ a2 x0 x1 x2 x3 x4) (f : ∀ x0 x1 x2 x3 x4, a0 x0 x1 x2 x3 x4 → a1 x0 x1 x2 x3 x4 → a2 x0 x1 x2 x3 x4 → G) : G := h.elim fun x q => exA4_3 q (f x)
theorem exA6_3 {α0 α1 α2 α3 α4 α5 : Type} {a0 a1 a2 : α0 → α1 → α2 → α3 → α4 → α5 → Prop} {G : Prop} (h : ∃ x0 x1 x2 x3 x4 x5, a0 x0 x1 x2 x3 x4 x5 ∧ a1 x0 x1 x2 x3 x4 x5 ∧ a2 x0 x1 x2 x3 x4 x5) (f : ∀ x0 x1 x2 x3 x4 x5, a0 x0 x1 x2 x3 x4 x5 → a1 x0 x1 x2 x3 x4 x5 → a2 x0 x1 x2 x3 x4 x5 → G) : G := h.elim fun x q => exA5_3 q (f x)
theorem exA0_4 {a0 a1 a2 a3 : Prop} {G : Prop} (h : a0 ∧ a1 ∧ a2 ∧ a3) (f : a0 → a1 → a2 → a3 → G) : G := exA0_3 h.2 (f h.1)
theorem exA1_4 {α0 : Type} {a0 a1 a2 a3 : α0 → Prop} {G : Prop} (h : ∃ x0, a0 x0 ∧ a1 x0 ∧ a2 x0 ∧ a3 x0) (f : ∀ x0, a0 x0 → a1 x0 → a2 x0 → a3 x0 → G) : G := h.elim fun x q => exA0_4 q (f x)
theorem exA2_4 {α0 α1 : Type} {a0 a1 a2 a3 : α0 → α1 → Prop} {G : Prop} (h : ∃ x0 x1, a0 x0 x1 ∧ a1 x0 x1 ∧ a2 x0 x1 ∧ a3 x0 x1) (f : ∀ x0 x1, a0 x0 x1 → a1 x0 x1 → a2 x0 x1 → a3 x0 x1 → G) : G := h.elim fun x q => exA1_4 q (f x)
theorem exA3_4 {α0 α1 α2 : Type} {a0 a1 a2 a3 : α0 → α1 → α2 → Prop} {G : Prop} (h : ∃ x0 x1 x2, a0 x0 x1 x2 ∧ a1 x0 x1 x2 ∧ a2 x0 x1 x2 ∧ a3 x0 x1 x2) (f : ∀ x0 x1 x2, a0 x0 x1 x2 → a1 x0 x1 x2 → a2 x0 x1 x2 → a3 x0 x1 x2 → G) : G := h.elim fun x q => exA2_4 q (f x)
theorem exA4_4 {α0 α1 α2 α3 : Type} {a0 a1 a2 a3 : α0 → α1 → α2 → α3 → Prop} {G : Prop} (h : ∃ x0 x1 x2 x3, a0 x0 x1 x2 x3 ∧ a1 x0 x1 x2 x3 ∧ a2 x0 x1 x2 x3 ∧ a3 x0 x1 x2 x3) (f : ∀ x0 x1 x2 x3, a0 x0 x1 x2 x3 → a1 x0 x1 x2 x3 → a2 x0 x1 x2 x3 → a3 x0 x1 x2 x3 → G) : G := h.elim fun x q => exA3_4 q (f x)
theorem exA5_4 {α0 α1 α2 α3 α4 : Type} {a0 a1 a2 a3 : α0 → α1 → α2 → α3 → α4 → Prop} {G : Prop} (h : ∃ x0 x1 x2 x3 x4, a0 x0 x1 x2 x3 x4 ∧ a1 x0 x1 x2 x3 x4 ∧ a2 x0 x1 x2 x3 x4 ∧ a3 x0 x1 x2 x3 x4) (f : ∀ x0 x1 x2 x3 x4, a0 x0 x1 x2 x3 x4 → a1 x0 x1 x2 x3 x4 → a2 x0 x1 x2 x3 x4 → a3 x0 x1 x2 x3 x4 → G) : G := h.elim fun x q => exA4_4 q (f x)
theorem exA6_4 {α0 α1 α2 α3 α4 α5 : Type} {a0 a1 a2 a3 : α0 → α1 → α2 → α3 → α4 → α5 → Prop} {G : Prop} (h : ∃ x0 x1 x2 x3 x4 x5, a0 x0 x1 x2 x3 x4 x5 ∧ a1 x0 x1 x2 x3 x4 x5 ∧ a2 x0 x1 x2 x3 x4 x5 ∧ a3 x0 x1 x2 x3 x4 x5) (f : ∀ x0 x1 x2 x3 x4 x5, a0 x0 x1 x2 x3 x4 x5 → a1 x0 x1 x2 x3 x4 x5 → a2 x0 x1 x2 x3 x4 x5 → a3 x0 x1 x2 x3 x4 x5 → G) : G := h.elim fun x q => exA5_4 q (f x)
theorem exA0_5 {a0 a1 a2 a3 a4 : Prop} {G : Prop} (h : a0 ∧ a1 ∧ a2 ∧ a3 ∧ a4) (f : a0 → a1 → a2 → a3 → a4 → G) : G := exA0_4 h.2 (f h.1)
theorem exA1_5 {α0 : Type} {a0 a1 a2 a3 a4 : α0 → Prop} {G : Prop} (h : ∃ x0, a0 x0 ∧ a1 x0 ∧ a2 x0 ∧ a3 x0 ∧ a4 x0) (f : ∀ x0, a0 x0 → a1 x0 → a2 x0 → a3 x0 → a4 x0 → G) : G := h.elim fun x q => exA0_5 q (f x)
theorem exA2_5 {α0 α1 : Type} {a0 a1 a2 a3 a4 : α0 → α1 → Prop} {G : Prop} (h : ∃ x0 x1, a0 x0 x1 ∧ a1 x0 x1 ∧ a2 x0 x1 ∧ a3 x0 x1 ∧ a4 x0 x1) (f : ∀ x0 x1, a0 x0 x1 → a1 x0 x1 → a2 x0 x1 → a3 x0 x1 → a4 x0 x1 → G) : G := h.elim fun x q => exA1_5 q (f x)
theorem exA3_5 {α0 α1 α2 : Type} {a0 a1 a2 a3 a4 : α0 → α1 → α2 → Prop} {G : Prop} (h : ∃ x0 x1 x2, a0 x0 x1 x2 ∧ a1 x0 x1 x2 ∧ a2 x0 x1 x2 ∧ a3 x0 x1 x2 ∧ a4 x0 x1 x2) (f : ∀ x0 x1 x2, a0 x0 x1 x2 → a1 x0 x1 x2 → a2 x0 x1 x2 → a3 x0 x1 x2 → a4 x0 x1 x2 → G) : G := h.elim fun x q => exA2_5 q (f x)
theorem exA4_5 {α0 α1 α2 α3 : Type} {a0 a1 a2 a3 a4 : α0 → α1 → α2 → α3 → Prop} {G : Prop} (h : ∃ x0 x1 x2 x3, a0 x0 x1 x2 x3 ∧ a1 x0 x1 x2 x3 ∧ a2 x0 x1 x2 x3 ∧ a3 x0 x1 x2 x3 ∧ a4 x0 x1 x2 x3) (f : ∀ x0 x1 x2 x3, a0 x0 x1 x2 x3 → a1 x0 x1 x2 x3 → a2 x0 x1 x2 x3 → a3 x0 x1 x2 x3 → a4 x0 x1 x2 x3 → G) : G := h.elim fun x q => exA3_5 q (f x)
theorem exA5_5 {α0 α1 α2 α3 α4 : Type} {a0 a1 a2 a3 a4 : α0 → α1 → α2 → α3 → α4 → Prop} {G : Prop} (h : ∃ x0 x1 x2 x3 x4, a0 x0 x1 x2 x3 x4 ∧ a1 x0 x1 x2 x3 x4 ∧ a2 x0 x1 x2 x3 x4 ∧ a3 x0 x1 x2 x3 x4 ∧ a4 x0 x1 x2 x3 x4) (f : ∀ x0 x1 x2 x3 x4, a0 x0 x1 x2 x3 x4 → a1 x0 x1 x2 x3 x4 → a2 x0 x1 x2 x3 x4 → a3 x0 x1 x2 x3 x4 → a4 x0 x1 x2 x3 x4 → G) : G := h.elim fun x q => exA4_5 q (f x)
theorem exA6_5 {α0 α1 α2 α3 α4 α5 : Type} {a0 a1 a2 a3 a4 : α0 → α1 → α2 → α3 → α4 → α5 → Prop} {G : Prop} (h : ∃ x0 x1 x2 x3 x4 x5, a0 x0 x1 x2 x3 x4 x5 ∧ a1 x0 x1 x2 x3 x4 x5 ∧ a2 x0 x1 x2 x3 x4 x5 ∧ a3 x0 x1 x2 x3 x4 x5 ∧ a4 x0 x1 x2 x3 x4 x5) (f : ∀ x0 x1 x2 x3 x4 x5, a0 x0 x1 x2 x3 x4 x5 → a1 x0 x1 x2 x3 x4 x5 → a2 x0 x1 x2 x3 x4 x5 → a3 x0 x1 x2 x3 x4 x5 → a4 x0 x1 x2 x3 x4 x5 → G) : G := h.elim fun x q => exA5_5 q (f x)
theorem exA7_5 {α0 α1 α2 α3 α4 α5 α6 : Type} {a0 a1 a2 a3 a4 : α0 → α1 → α2 → α3 → α4 → α5 → α6 → Prop} {G : Prop} (h : ∃ x0 x1 x2 x3 x4 x5 x6, a0 x0 x1 x2 x3 x4 x5 x6 ∧ a1 x0 x1 x2 x3 x4 x5 x6 ∧ a2 x0 x1 x2 x3 x4 x5 x6 ∧ a3 x0 x1 x2 x3 x4 x5 x6 ∧ a4 x0 x1 x2 x3 x4 x5 x6) (f : ∀ x0 x1 x2 x3 x4 x5 x6, a0 x0 x1 x2 x3 x4 x5 x6 → a1 x0 x1 x2 x3 x4 x5 x6 → a2 x0 x1 x2 x3 x4 x5 x6 → a3 x0 x1 x2 x3 x4 x5 x6 → a4 x0 x1 x2 x3 x4 x5 x6 → G) : G := h.elim fun x q => exA6_5 q (f x)
theorem exA8_5 {α0 α1 α2 α3 α4 α5 α6 α7 : Type} {a0 a1 a2 a3 a4 : α0 → α1 → α2 → α3 → α4 → α5 → α6 → α7 → Prop} {G : Prop} (h : ∃ x0 x1 x2 x3 x4 x5 x6 x7, a0 x0 x1 x2 x3 x4 x5 x6 x7 ∧ a1 x0 x1 x2 x3 x4 x5 x6 x7 ∧ a2 x0 x1 x2 x3 x4 x5 x6 x7 ∧ a3 x0 x1 x2 x3 x4 x5 x6 x7 ∧ a4 x0 x1 x2 x3 x4 x5 x6 x7) (f : ∀ x0 x1 x2 x3 x4 x5 x6 x7, a0 x0 x1 x2 x3 x4 x5 x6 x7 → a1 x0 x1 x2 x3 x4 x5 x6 x7 → a2 x0 x1 x2 x3 x4 x5 x6 x7 → a3 x0 x1 x2 x3 x4 x5 x6 x7 → a4 x0 x1 x2 x3 x4 x5 x6 x7 → G) : G := h.elim fun x q => exA7_5 q (f x)
theorem exA9_5 {α0 α1 α2 α3 α4 α5 α6 α7 α8 : Type} {a0 a1 a2 a3 a4 : α0 → α1 → α2 → α3 → α4 → α5 → α6 → α7 → α8 → Prop} {G : Prop} (h : ∃ x0 x1 x2 x3 x4 x5 x6 x7 x8, a0 x0 x1 x2 x3 x4 x5 x6 x7 x8 ∧ a1 x0 x1 x2 x3 x4 x5 x6 x7 x8 ∧ a2 x0 x1 x2 x3 x4 x5 x6 x7 x8 ∧ a3 x0 x1 x2 x3 x4 x5 x6 x7 x8 ∧ a4 x0 x1 x2 x3 x4 x5 x6 x7 x8) (f : ∀ x0 x1 x2 x3 x4 x5 x6 x7 x8, a0 x0 x1 x2 x3 x4 x5 x6 x7 x8 → a1 x0 x1 x2 x3 x4 x5 x6 x7 x8 → a2 x0 x1 x2 x3 x4 x5 x6 x7 x8 → a3 x0 x1 x2 x3 x4 x5 x6 x7 x8 → a4 x0 x1 x2 x3 x4 x5 x6 x7 x8 → G) : G := h.elim fun x q => exA8_5 q (f x)
theorem exA0_6 {a0 a1 a2 a3 a4 a5 : Prop} {G : Prop} (h : a0 ∧ a1 ∧ a2 ∧ a3 ∧ a4 ∧ a5) (f : a0 → a1 → a2 → a3 → a4 → a5 → G) : G := exA0_5 h.2 (f h.1)
theorem exA1_6 {α0 : Type} {a0 a1 a2 a3 a4 a5 : α0 → Prop} {G : Prop} (h : ∃ x0, a0 x0 ∧ a1 x0 ∧ a2 x0 ∧ a3 x0 ∧ a4 x0 ∧ a5 x0) (f : ∀ x0, a0 x0 → a1 x0 → a2 x0 → a3 x0 → a4 x0 → a5 x0 → G) : G := h.elim fun x q => exA0_6 q (f x)
theorem exA2_6 {α0 α1 : Type} {a0 a1 a2 a3 a4 a5 : α0 → α1 → Prop} {G : Prop} (h : ∃ x0 x1, a0 x0 x1 ∧ a1 x0 x1 ∧ a2 x0 x1 ∧ a3 x0 x1 ∧ a4 x0 x1 ∧ a5 x0 x1) (f : ∀ x0 x1, a0 x0 x1 → a1 x0 x1 → a2 x0 x1 → a3 x0 x1 → a4 x0 x1 → a5 x0 x1 → G) : G := h.elim fun x q => exA1_6 q (f x)
theorem exA3_6 {α0 α1 α2 : Type} {a0 a1 a2 a3 a4 a5 : α0 → α1 → α2 → Prop} {G : Prop} (h : ∃ x0 x1 x2, a0 x0 x1 x2 ∧ a1 x0 x1 x2 ∧ a2 x0 x1 x2 ∧ a3 x0 x1 x2 ∧ a4 x0 x1 x2 ∧ a5 x0 x1 x2) (f : ∀ x0 x1 x2, a0 x0 x1 x2 → a1 x0 x1 x2 → a2 x0 x1 x2 → a3 x0 x1 x2 → a4 x0 x1 x2 → a5 x0 x1 x2 → G) : G := h.elim fun x q => exA2_6 q (f x)
theorem exA4_6 {α0 α1 α2 α3 : Type} {a0 a1 a2 a3 a4 a5 : α0 → α1 → α2 → α3 → Prop} {G : Prop} (h : ∃ x0 x1 x2 x3, a0 x0 x1 x2 x3 ∧ a1 x0 x1 x2 x3 ∧ a2 x0 x1 x2 x3 ∧ a3 x0 x1 x2 x3 ∧ a4 x0 x1 x2 x3 ∧ a5 x0 x1 x2 x3) (f : ∀ x0 x1 x2 x3, a0 x0 x1 x2 x3 → a1 x0 x1 x2 x3 → a2 x0 x1 x2 x3 → a3 x0 x1 x2 x3 → a4 x0 x1 x2 x3 → a5 x0 x1 x2 x3 → G) : G := h.elim fun x q => exA3_6 q (f x)
theorem exA5_6 {α0 α1 α2 α3 α4 : Type} {a0 a1 a2 a3 a4 a5 : α0 → α1 → α2 → α3 → α4 → Prop} {G : Prop} (h : ∃ x0 x1 x2 x3 x4, a0 x0 x1 x2 x3 x4 ∧ a1 x0 x1 x2 x3 x4 ∧ a2 x0 x1 x2 x3 x4 ∧ a3 x0 x1 x2 x3 x4 ∧ a4 x0 x1 x2 x3 x4 ∧ a5 x0 x1 x2 x3 x4) (f : ∀ x0 x1 x2 x3 x4, a0 x0 x1 x2 x3 x4 → a1 x0 x1 x2 x3 x4 → a2 x0 x1 x2 x3 x4 → a3 x0 x1 x2 x3 x4 → a4 x0 x1 x2 x3 x4 → a5 x0 x1 x2 x3 x4 → G) : G := h.elim fun x q => exA4_6 q (f x)
theorem exA6_6 {α0 α1 α2 α3 α4 α5 : Type} {a0 a1 a2 a3 a4 a5 : α0 → α1 → α2 → α3 → α4 → α5 → Prop} {G : Prop} (h : ∃ x0 x1 x2 x3 x4 x5, a0 x0 x1 x2 x3 x4 x5 ∧ a1 x0 x1 x2 x3 x4 x5 ∧ a2 x0 x1 x2 x3 x4 x5 ∧ a3 x0 x1 x2 x3 x4 x5 ∧ a4 x0 x1 x2 x3 x4 x5 ∧ a5 x0 x1 x2 x3 x4 x5) (f : ∀ x0 x1 x2 x3 x4 x5, a0 x0 x1 x2 x3 x4 x5 → a1 x0 x1 x2 x3 x4 x5 → a2 x0 x1 x2 x3 x4 x5 → a3 x0 x1 x2 x3 x4 x5 → a4 x0 x1 x2 x3 x4 x5 → a5 x0 x1 x2 x3 x4 x5 → G) : G := h.elim fun x q => exA5_6 q (f x)
theorem exA7_6 {α0 α1 α2 α3 α4 α5 α6 : Type} {a0 a1 a2 a3 a4 a5 : α0 → α1 → α2 → α3 → α4 → α5 → α6 → Prop} {G : Prop} (h : ∃ x0 x1 x2 x3 x4 x5 x6, a0 x0 x1 x2 x3 x4 x5 x6 ∧ a1 x0 x1 x2 x3 x4 x5 x6 ∧ a2 x0 x1 x2 x3 x4 x5 x6 ∧ a3 x0 x1 x2 x3 x4 x5 x6 ∧ a4 x0 x1 x2 x3 x4 x5 x6 ∧ a5 x0 x1 x2 x3 x4 x5 x6) (f : ∀ x0 x1 x2 x3 x4 x5 x6, a0 x0 x1 x2 x3 x4 x5 x6 → a1 x0 x1 x2 x3 x4 x5 x6 → a2 x0 x1 x2 x3 x4 x5 x6 → a3 x0 x1 x2 x3 x4 x5 x6 → a4 x0 x1 x2 x3 x4 x5 x6 → a5 x0 x1 x2 x3 x4 x5 x6 → G) : G := h.elim fun x q => exA6_6 q (f x)
theorem exA8_6 {α0 α1 α2 α3 α4 α5 α6 α7 : Type} {a0 a1 a2 a3 a4 a5 : α0 → α1 → α2 → α3 → α4 → α5 → α6 → α7 → Prop} {G : Prop} (h : ∃ x0 x1 x2 x3 x4 x5 x6 x7, a0 x0 x1 x2 x3 x4 x5 x6 x7 ∧ a1 x0 x1 x2 x3 x4 x5 x6 x7 ∧ a2 x0 x1 x2 x3 x4 x5 x6 x7 ∧ a3 x0 x1 x2 x3 x4 x5 x6 x7 ∧ a4 x0 x1 x2 x3 x4 x5 x6 x7 ∧ a5 x0 x1 x2 x3 x4 x5 x6 x7) (f : ∀ x0 x1 x2 x3 x4 x5 x6 x7, a0 x0 x1 x2 x3 x4 x5 x6 x7 → a1 x0 x1 x2 x3 x4 x5 x6 x7 → a2 x0 x1 x2 x3 x4 x5 x6 x7 → a3 x0 x1 x2 x3 x4 x5 x6 x7 → a4 x0 x1 x2 x3 x4 x5 x6 x7 → a5 x0 x1 x2 x3 x4 x5 x6 x7 → G) : G := h.elim fun x q => exA7_6 q (f x)
theorem exA0_7 {a0 a1 a2 a3 a4 a5 a6 : Prop} {G : Prop} (h : a0 ∧ a1 ∧ a2 ∧ a3 ∧ a4 ∧ a5 ∧ a6) (f : a0 → a1 → a2 → a3 → a4 → a5 → a6 → G) : G := exA0_6 h.2 (f h.1)
theorem exA1_7 {α0 : Type} {a0 a1 a2 a3 a4 a5 a6 : α0 → Prop} {G : Prop} (h : ∃ x0, a0 x0 ∧ a1 x0 ∧ a2 x0 ∧ a3 x0 ∧ a4 x0 ∧ a5 x0 ∧ a6 x0) (f : ∀ x0, a0 x0 → a1 x0 → a2 x0 → a3 x0 → a4 x0 → a5 x0 → a6 x0 → G) : G := h.elim fun x q => exA0_7 q (f x)
theorem exA2_7 {α0 α1 : Type} {a0 a1 a2 a3 a4 a5 a6 : α0 → α1 → Prop} {G : Prop} (h : ∃ x0 x1, a0 x0 x1 ∧ a1 x0 x1 ∧ a2 x0 x1 ∧ a3 x0 x1 ∧ a4 x0 x1 ∧ a5 x0 x1 ∧ a6 x0 x1) (f : ∀ x0 x1, a0 x0 x1 → a1 x0 x1 → a2 x0 x1 → a3 x0 x1 → a4 x0 x1 → a5 x0 x1 → a6 x0 x1 → G) : G := h.elim fun x q => exA1_7 q (f x)
theorem exA3_7 {α0 α1 α2 : Type} {a0 a1 a2 a3 a4 a5 a6 : α0 → α1 → α2 → Prop} {G : Prop} (h : ∃ x0 x1 x2, a0 x0 x1 x2 ∧ a1 x0 x1 x2 ∧ a2 x0 x1 x2 ∧ a3 x0 x1 x2 ∧ a4 x0 x1 x2 ∧ a5 x0 x1 x2 ∧ a6 x0 x1 x2) (f : ∀ x0 x1 x2, a0 x0 x1 x2 → a1 x0 x1 x2 → a2 x0 x1 x2 → a3 x0 x1 x2 → a4 x0 x1 x2 → a5 x0 x1 x2 → a6 x0 x1 x2 → G) : G := h.elim fun x q => exA2_7 q (f x)
theorem exA4_7 {α0 α1 α2 α3 : Type} {a0 a1 a2 a3 a4 a5 a6 : α0 → α1 → α2 → α3 → Prop} {G : Prop} (h : ∃ x0 x1 x2 x3, a0 x0 x1 x2 x3 ∧ a1 x0 x1 x2 x3 ∧ a2 x0 x1 x2 x3 ∧ a3 x0 x1 x2 x3 ∧ a4 x0 x1 x2 x3 ∧ a5 x0 x1 x2 x3 ∧ a6 x0 x1 x2 x3) (f : ∀ x0 x1 x2 x3, a0 x0 x1 x2 x3 → a1 x0 x1 x2 x3 → a2 x0 x1 x2 x3 → a3 x0 x1 x2 x3 → a4 x0 x1 x2 x3 → a5 x0 x1 x2 x3 → a6 x0 x1 x2 x3 → G) : G := h.elim fun x q => exA3_7 q (f x)
theorem exA5_7 {α0 α1 α2 α3 α4 : Type} {a0 a1 a2 a3 a4 a5 a6 : α0 → α1 → α2 → α3 → α4 → Prop} {G : Prop} (h : ∃ x0 x1 x2 x3 x4, a0 x0 x1 x2 x3 x4 ∧ a1 x0 x1 x2 x3 x4 ∧ a2 x0 x1 x2 x3 x4 ∧ a3 x0 x1 x2 x3 x4 ∧ a4 x0 x1 x2 x3 x4 ∧ a5 x0 x1 x2 x3 x4 ∧ a6 x0 x1 x2 x3 x4) (f : ∀ x0 x1 x2 x3 x4, a0 x0 x1 x2 x3 x4 → a1 x0 x1 x2 x3 x4 → a2 x0 x1 x2 x3 x4 → a3 x0 x1 x2 x3 x4 → a4 x0 x1 x2 x3 x4 → a5 x0 x1 x2 x3 x4 → a6 x0 x1 x2 x3 x4 → G) : G := h.elim fun x q => exA4_7 q (f x)
theorem exA6_7 {α0 α1 α2 α3 α4 α5 : Type} {a0 a1 a2 a3 a4 a5 a6 : α0 → α1 → α2 → α3 → α4 → α5 → Prop} {G : Prop} (h : ∃ x0 x1 x2 x3 x4 x5, a0 x0 x1 x2 x3 x4 x5 ∧ a1 x0 x1 x2 x3 x4 x5 ∧ a2 x0 x1 x2 x3 x4 x5 ∧ a3 x0 x1 x2 x3 x4 x5 ∧ a4 x0 x1 x2 x3 x4 x5 ∧ a5 x0 x1 x2 x3 x4 x5 ∧ a6 x0 x1 x2 x3 x4 x5) (f : ∀ x0 x1 x2 x3 x4 x5, a0 x0 x1 x2 x3 x4 x5 → a1 x0 x1 x2 x3 x4 x5 → a2 x0 x1 x2 x3 x4 x5 → a3 x0 x1 x2 x3 x4 x5 → a4 x0 x1 x2 x3 x4 x5 → a5 x0 x1 x2 x3 x4 x5 → a6 x0 x1 x2 x3 x4 x5 → G) : G := h.elim fun x q => exA5_7 q (f x)
theorem exA7_7 {α0 α1 α2 α3 α4 α5 α6 : Type} {a0 a1 a2 a3 a4 a5 a6 : α0 → α1 → α2 → α3 → α4 → α5 → α6 → Prop} {G : Prop} (h : ∃ x0 x1 x2 x3 x4 x5 x6, a0 x0 x1 x2 x3 x4 x5 x6 ∧ a1 x0 x1 x2 x3 x4 x5 x6 ∧ a2 x0 x1 x2 x3 x4 x5 x6 ∧ a3 x0 x1 x2 x3 x4 x5 x6 ∧ a4 x0 x1 x2 x3 x4 x5 x6 ∧ a5 x0 x1 x2 x3 x4 x5 x6 ∧ a6 x0 x1 x2 x3 x4 x5 x6) (f : ∀ x0 x1 x2 x3 x4 x5 x6, a0 x0 x1 x2 x3 x4 x5 x6 → a1 x0 x1 x2 x3 x4 x5 x6 → a2 x0 x1 x2 x3 x4 x5 x6 → a3 x0 x1 x2 x3 x4 x5 x6 → a4 x0 x1 x2 x3 x4 x5 x6 → a5 x0 x1 x2 x3 x4 x5 x6 → a6 x0 x1 x2 x3 x4 x5 x6 → G) : G := h.elim fun x q => exA6_7 q (f x)
theorem exA0_8 {a0 a1 a2 a3 a4 a5 a6 a7 : Prop} {G : Prop} (h : a0 ∧ a1 ∧ a2 ∧ a3 ∧ a4 ∧ a5 ∧ a6 ∧ a7) (f : a0 → a1 → a2 → a3 → a4 → a5 → a6 → a7 → G) : G := exA0_7 h.2 (f h.1)
theorem exA1_8 {α0 : Type} {a0 a1 a2 a3 a4 a5 a6 a7 : α0 → Prop} {G : Prop} (h : ∃ x0, a0 x0 ∧ a1 x0 ∧ a2 x0 ∧ a3 x0 ∧ a4 x0 ∧ a5 x0 ∧ a6 x0 ∧ a7 x0) (f : ∀ x0, a0 x0 → a1 x0 → a2 x0 → a3 x0 → a4 x0 → a5 x0 → a6 x0 → a7 x0 → G) : G := h.elim fun x q => exA0_8 q (f x)
theorem exA2_8 {α0 α1 : Type} {a0 a1 a2 a3 a4 a5 a6 a7 : α0 → α1 → Prop} {G : Prop} (h : ∃ x0 x1, a0 x0 x1 ∧ a1 x0 x1 ∧ a2 x0 x1 ∧ a3 x0 x1 ∧ a4 x0 x1 ∧ a5 x0 x1 ∧ a6 x0 x1 ∧ a7 x0 x1) (f : ∀ x0 x1, a0 x0 x1 → a1 x0 x1 → a2 x0 x1 → a3 x0 x1 → a4 x0 x1 → a5 x0 x1 → a6 x0 x1 → a7 x0 x1 → G) : G := h.elim fun x q => exA1_8 q (f x)
theorem exA3_8 {α0 α1 α2 : Type} {a0 a1 a2 a3 a4 a5 a6 a7 : α0 → α1 → α2 → Prop} {G : Prop} (h : ∃ x0 x1 x2, a0 x0 x1 x2 ∧ a1 x0 x1 x2 ∧ a2 x0 x1 x2 ∧ a3 x0 x1 x2 ∧ a4 x0 x1 x2 ∧ a5 x0 x1 x2 ∧ a6 x0 x1 x2 ∧ a7 x0 x1 x2) (f : ∀ x0 x1 x2, a0 x0 x1 x2 → a1 x0 x1 x2 → a2 x0 x1 x2 → a3 x0 x1 x2 → a4 x0 x1 x2 → a5 x0 x1 x2 → a6 x0 x1 x2 → a7 x0 x1 x2 → G) : G := h.elim fun x q => exA2_8 q (f x)
theorem exA4_8 {α0 α1 α2 α3 : Type} {a0 a1 a2 a3 a4 a5 a6 a7 : α0 → α1 → α2 → α3 → Prop} {G : Prop} (h : ∃ x0 x1 x2 x3, a0 x0 x1 x2 x3 ∧ a1 x0 x1 x2 x3 ∧ a2 x0 x1 x2 x3 ∧ a3 x0 x1 x2 x3 ∧ a4 x0 x1 x2 x3 ∧ a5 x0 x1 x2 x3 ∧ a6 x0 x1 x2 x3 ∧ a7 x0 x1 x2 x3) (f : ∀ x0 x1 x2 x3, a0 x0 x1 x2 x3 → a1 x0 x1 x2 x3 → a2 x0 x1 x2 x3 → a3 x0 x1 x2 x3 → a4 x0 x1 x2 x3 → a5 x0 x1 x2 x3 → a6 x0 x1 x2 x3 → a7 x0 x1 x2 x3 → G) : G := h.elim fun x q => exA3_8 q (f x)
theorem exA0_9 {a0 a1 a2 a3 a4 a5 a6 a7 a8 : Prop} {G : Prop} (h : a0 ∧ a1 ∧ a2 ∧ a3 ∧ a4 ∧ a5 ∧ a6 ∧ a7 ∧ a8) (f : a0 → a1 → a2 → a3 → a4 → a5 → a6 → a7 → a8 → G) : G := exA0_8 h.2 (f h.1)
theorem exA1_9 {α0 : Type} {a0 a1 a2 a3 a4 a5 a6 a7 a8 : α0 → Prop} {G : Prop} (h : ∃ x0, a0 x0 ∧ a1 x0 ∧ a2 x0 ∧ a3 x0 ∧ a4 x0 ∧ a5 x0 ∧ a6 x0 ∧ a7 x0 ∧ a8 x0) (f : ∀ x0, a0 x0 → a1 x0 → a2 x0 → a3 x0 → a4 x0 → a5 x0 → a6 x0 → a7 x0 → a8 x0 → G) : G := h.elim fun x q => exA0_9 q (f x)
theorem exA2_9 {α0 α1 : Type} {a0 a1 a2 a3 a4 a5 a6 a7 a8 : α0 → α1 → Prop} {G : Prop} (h : ∃ x0 x1, a0 x0 x1 ∧ a1 x0 x1 ∧ a2 x0 x1 ∧ a3 x0 x1 ∧ a4 x0 x1 ∧ a5 x0 x1 ∧ a6 x0 x1 ∧ a7 x0 x1 ∧ a8 x0 x1) (f : ∀ x0 x1, a0 x0 x1 → a1 x0 x1 → a2 x0 x1 → a3 x0 x1 → a4 x0 x1 → a5 x0 x1 → a6 x0 x1 → a7 x0 x1 → a8 x0 x1 → G) : G := h.elim fun x q => exA1_9 q (f x)
theorem exA3_9 {α0 α1 α2 : Type} {a0 a1 a2 a3 a4 a5 a6 a7 a8 : α0 → α1 → α2 → Prop} {G : Prop} (h : ∃ x0 x1 x2, a0 x0 x1 x2 ∧ a1 x0 x1 x2 ∧ a2 x0 x1 x2 ∧ a3 x0 x1 x2 ∧ a4 x0 x1 x2 ∧ a5 x0 x1 x2 ∧ a6 x0 x1 x2 ∧ a7 x0 x1 x2 ∧ a8 x0 x1 x2) (f : ∀ x0 x1 x2, a0 x0 x1 x2 → a1 x0 x1 x2 → a2 x0 x1 x2 → a3 x0 x1 x2 → a4 x0 x1 x2 → a5 x0 x1 x2 → a6 x0 x1 x2 → a7 x0 x1 x2 → a8 x0 x1 x2 → G) : G := h.elim fun x q => exA2_9 q (f x)
theorem exA4_9 {α0 α1 α2 α3 : Type} {a0 a1 a2 a3 a4 a5 a6 a7 a8 : α0 → α1 → α2 → α3 → Prop} {G : Prop} (h : ∃ x0 x1 x2 x3, a0 x0 x1 x2 x3 ∧ a1 x0 x1 x2 x3 ∧ a2 x0 x1 x2 x3 ∧ a3 x0 x1 x2 x3 ∧ a4 x0 x1 x2 x3 ∧ a5 x0 x1 x2 x3 ∧ a6 x0 x1 x2 x3 ∧ a7 x0 x1 x2 x3 ∧ a8 x0 x1 x2 x3) (f : ∀ x0 x1 x2 x3, a0 x0 x1 x2 x3 → a1 x0 x1 x2 x3 → a2 x0 x1 x2 x3 → a3 x0 x1 x2 x3 → a4 x0 x1 x2 x3 → a5 x0 x1 x2 x3 → a6 x0 x1 x2 x3 → a7 x0 x1 x2 x3 → a8 x0 x1 x2 x3 → G) : G := h.elim fun x q => exA3_9 q (f x)
theorem exA5_9 {α0 α1 α2 α3 α4 : Type} {a0 a1 a2 a3 a4 a5 a6 a7 a8 : α0 → α1 → α2 → α3 → α4 → Prop} {G : Prop} (h : ∃ x0 x1 x2 x3 x4, a0 x0 x1 x2 x3 x4 ∧ a1 x0 x1 x2 x3 x4 ∧ a2 x0 x1 x2 x3 x4 ∧ a3 x0 x1 x2 x3 x4 ∧ a4 x0 x1 x2 x3 x4 ∧ a5 x0 x1 x2 x3 x4 ∧ a6 x0 x1 x2 x3 x4 ∧ a7 x0 x1 x2 x3 x4 ∧ a8 x0 x1 x2 x3 x4) (f : ∀ x0 x1 x2 x3 x4, a0 x0 x1 x2 x3 x4 → a1 x0 x1 x2 x3 x4 → a2 x0 x1 x2 x3 x4 → a3 x0 x1 x2 x3 x4 → a4 x0 x1 x2 x3 x4 → a5 x0 x1 x2 x3 x4 → a6 x0 x1 x2 x3 x4 → a7 x0 x1 x2 x3 x4 → a8 x0 x1 x2 x3 x4 → G) : G := h.elim fun x q => exA4_9 q (f x)
theorem fst_in {α β : Type} {P : α → Prop} {l l' : List (α × β)} (e : l.map (·.1) = l'.map (·.1)) (h : ∀ p ∈ l, P p.1) : ∀ p ∈ l', P p.1 := fun p hp => by
  obtain ⟨q, hq, e'⟩ := List.mem_map.mp (e ▸ List.mem_map_of_mem (f := (·.1)) hp : p.1 ∈ l.map (·.1))
  exact e' ▸ h q hq
theorem all_c {α : Type} {P : α → Prop} {a : α} {l : List α} (h : P a) (t : ∀ p ∈ l, P p) : ∀ p ∈ a :: l, P p := fun p hp => (List.mem_cons.mp hp).elim (fun e => e ▸ h) (t p)
theorem all_n {α : Type} {P : α → Prop} : ∀ p ∈ ([] : List α), P p := fun _ h => nomatch h
end SPK
end Mine
namespace Mine
section ALL
open PySem PySem.W PyProof.Rows PySem.Spec PySem.Calls
set_option maxRecDepth 100000
local macro_rules | `(tactic| omega) => `(tactic| first | lia | omega (config := {}))
set_option hygiene false in
local macro_rules | `(tactic| walk_at "MINE ne") => `(tactic| repeat first | refine @instNonemptyProd _ _ ?_ ?_ | exact world_is | exact around_is | exact shared_is | exact inferInstance | exact ⟨by constructor <;> exact default⟩)
local macro_rules
  | `(tactic| intro $x:ident $y $zs*) => do
    let k := x.getId.eraseMacroScopes
    unless k == `mean || k == `PG || k == `PH || k == `PK do Lean.Macro.throwUnsupported
    let all : Array Lean.Syntax := (if k != `mean then #[] else #[x.raw]) ++ #[y.raw] ++ zs.map (·.raw)
    let n := if k == `mean then 18 else if k == `PG then 3 else if k == `PH then 5 else all.size
    let c := ([3, 5, 12, 18, 25, 32].find? (n ≤ ·)).getD n
    let d := c - n
    let pk : Lean.TSyntax `ident := Lean.mkIdent (Lean.Name.mkSimple s!"pk{c}")
    let pick : Lean.TSyntax `ident := Lean.mkIdent (Lean.Name.mkSimple s!"pick{c}")
    let mut ts : Array (Lean.TSyntax `tactic) := #[]
    for _ in [0:d] do ts := ts.push (← `(tactic| refine @unitE _ ?_))
    ts := ts.push (← `(tactic| refine no_implicit_lambda% ($pick (by walk_at "MINE ne") ?_)))
    let mut e : Lean.TSyntax `term ← `($pk _ _)
    for _ in [0:d] do e ← `(pb $e)
    for i in [0:n] do
      let z : Lean.TSyntax `ident := ⟨all[i]!⟩
      let c ← if i + 1 < n then `(pa $e) else pure e
      ts := ts.push (← `(tactic| try generalize $c = $z:ident))
      e ← `(pb $e)
    for z in all[n:] do
      let z : Lean.TSyntax `ident := ⟨z⟩
      ts := ts.push (← `(tactic| intros $z:ident))
    `(tactic| ($[$ts]*))
set_option hygiene false in
local macro_rules | `(tactic| walk_at "execs cons") => `(tactic| (k_here; (try dsimp only); refine execs_cut ?_; intro Qc hQc))
set_option hygiene false in
local macro_rules | `(tactic| walk_at "QK") => `(tactic| (refine' QK.fin ?k1 ?_; (case k1 => assumption); (try dsimp only)))
set_option hygiene false in
local macro_rules | `(tactic| walk_at "IN") => `(tactic| first | with_reducible exact in_head | (with_reducible refine in_tail ?_; walk_at "IN") | (with_reducible refine in_left ?_; walk_at "IN") | (with_reducible refine in_right ?_; walk_at "IN") | with_reducible assumption)
set_option hygiene false in
local macro_rules | `(tactic| walk_at "SUBF") => `(tactic| first | with_reducible exact sub_self | with_reducible assumption | (with_reducible refine sub_tail ?_; walk_at "SUBF") | (with_reducible refine sub_left ?_; walk_at "SUBF") | (with_reducible refine sub_right ?_; walk_at "SUBF"))
set_option hygiene false in
local macro_rules | `(tactic| walk_at "INS") => `(tactic| first | walk_at "IN" | simp)
set_option hygiene false in
local macro_rules | `(tactic| walk_at "SUB") => `(tactic| first | walk_at "SUBF" | with_reducible exact sub_nil | (with_reducible refine sub_app ?_ ?_ <;> walk_at "SUB") | (with_reducible refine sub_cons ?_ ?_; walk_at "IN"; walk_at "SUB"))
set_option hygiene false in
local macro_rules | `(tactic| walk_at "STOP") => `(tactic| (k_here; refine Stop.out ?_))
local macro_rules
  | `(tactic| obtain ⟨$ps:rcasesPatLo,*⟩ := $e:term) => do
    let ns := ps.getElems
    let n := ns.size
    unless n ≥ 2 do Lean.Macro.throwUnsupported
    let mut alt : Lean.TSyntax `tactic ← `(tactic| rcases $e:term with ⟨$ns,*⟩)
    for k in [0:min n 10] do
      for j in [0:min (n - k) 9] do
        let m := j + 1
        if 2 ≤ k + m && k + m ≤ 14 then
          let mut ts : Array (Lean.TSyntax `tactic) := #[]
          let mut post : Array (Lean.TSyntax `tactic) := #[]
          for i in [0:k + m] do
            let p := ns[i]!
            let last := i + 1 == k + m && i + 1 < n
            let id := p.raw[0][0][0][0]
            if !last && id.isIdent && id.getId.eraseMacroScopes != `rfl then
              let z : Lean.TSyntax `ident := ⟨id⟩
              ts := ts.push (← `(tactic| intros $z:ident))
            else
              let z := Lean.mkIdent (← Lean.Macro.addMacroScope (Lean.Name.mkSimple s!"z{post.size}"))
              ts := ts.push (← `(tactic| intros $z:ident))
              let r := ns.extract i n
              let q : Lean.TSyntax `Lean.Parser.Tactic.rcasesPatMed := ⟨p.raw[0]⟩
              post := post.push (← if last then `(tactic| obtain ⟨$r,*⟩ := $z) else `(tactic| obtain $q := $z))
          ts := ts ++ post
          let f := Lean.mkIdent (Lean.Name.mkSimple s!"exA{k}_{m}")
          alt ← `(tactic| first | (refine $f:ident $e ?_; (try clear $e); $[$ts]*) | ($alt:tactic))
    pure alt
section SM0
set_option maxHeartbeats 8000000
noncomputable abbrev looseG : List Str := looseW vw loose ++ (recsOf vw).map (·.name) ++ (litsOf vw).map (·.1) ++ (clssOf vw (looseW vw loose)).map (·.name)
abbrev Led := List (Addr × Obj)
def CtrK (w : World) (D U : Nat) (f : Value) (vs : List Value) (kw : List (Str × Value)) (news : Led) (Out : Value → Led → Prop) : Prop :=
  ∀ (mean : ExcName → Option Value) (mg mb : Str → Option Value) (gd : Option (List Code)) (cn : Str) (cs : Scope) (a : Addr) (ccd : Value) (cl : List (Str × Addr)) (outer : List Env) (A₀ : Around) (base h₀ : Heap) (L : Addr) (m : Str → Option Value) (s : Shared) (Q E : Value → Shared → Prop),
    Below A₀ base outer h₀ → Fr h₀ L s.heap m → (hd.heap_1 w.params).In h₀ → News h₀ L s.heap news → Top topProg looseG mean mg mb h₀ → cs.kind = .function →
    (∀ (v : Value) (news' : Led) (h' : Heap) (tk' : Nat), Out v news' → Fr h₀ L h' m → News h₀ L h' news' → Q v { s with heap := h', toks := tk' }) →
    wpAny (model PySem.Challenge.pw_wv0033_01 w) (ktrTop D U gd cn cs L a ccd cl outer) (call f vs kw) Q E s
abbrev Ctr (w : World) (D U : Nat) (f : Value) (vs : List Value) (news : Led) (Out : Value → Led → Prop) : Prop := CtrK w D U f vs [] news Out
theorem in_le {A A' : Around} {Γ : PySem.Ctx} (hh : A'.handled = A.handled) (hd : A.depth ≤ A'.depth) (hf : A'.frames = A.frames) (hg : A'.guards = A.guards) (hu : A.units ≤ A'.units) (h : Γ.In A) : Γ.In A' :=
  ⟨hh ▸ h.1, Nat.le_trans h.2.1 hd, fun l hl => h.2.2.1 l (hf ▸ hl), fun g hl => h.2.2.2.1 g (hg ▸ hl), Nat.le_trans h.2.2.2.2 hu⟩
theorem wp_le {α : Type} {M : Model} {A A' : Around} {t : Sem α} {Q : α → Shared → Prop} {E : Value → Shared → Prop} {s : Shared} (hh : A'.handled = A.handled) (hd : A.depth ≤ A'.depth) (hf : A'.frames = A.frames) (hg : A'.guards = A.guards) (hu : A.units ≤ A'.units)
    (h : wpAny M A' t Q E s) : wpAny M A t Q E s := fun Γ p hΓ => h Γ p (in_le hh hd hf hg hu hΓ)
theorem CtrK.use {w : World} {D U : Nat} {f : Value} {vs : List Value} {kw : List (Str × Value)} {news : Led} {Out : Value → Led → Prop} (C : CtrK w D U f vs kw news Out)
    {mean : ExcName → Option Value} {mg mb : Str → Option Value} {dp un : Nat} {gd : Option (List Code)} {cn : Str} {cs : Scope} {a : Addr} {ccd : Value} {cl : List (Str × Addr)} {outer : List Env} {A₀ : Around} {base h₀ : Heap} {L : Addr} {m : Str → Option Value} {s : Shared} {Q E : Value → Shared → Prop}
    (hD : dp ≤ D) (hU : un ≤ U)
    (B : Below A₀ base outer h₀) (F : Fr h₀ L s.heap m) (X : (hd.heap_1 w.params).In h₀) (N : News h₀ L s.heap news) (T : Top topProg looseG mean mg mb h₀) (hk : cs.kind = .function)
    (h : ∀ (v : Value) (news' : Led) (h' : Heap) (tk' : Nat), Out v news' → Fr h₀ L h' m → News h₀ L h' news' → Q v { s with heap := h', toks := tk' }) :
    wpAny (model PySem.Challenge.pw_wv0033_01 w) (ktrTop dp un gd cn cs L a ccd cl outer) (call f vs kw) Q E s :=
  wp_le (A' := ktrTop D U gd cn cs L a ccd cl outer) rfl hD rfl rfl hU (C mean mg mb gd cn cs a ccd cl outer A₀ base h₀ L m s Q E B F X N T hk h)
structure Stop (P : Prop) : Prop where
  out : P
structure Cut (h₀ : Heap) (L : Addr) (s : Shared) (X : (Str → Option Value) → Led → Prop) (s₂ : Shared) : Prop where
  out : ∃ h' tk m' news', s₂ = { s with heap := h', toks := tk } ∧ Fr h₀ L h' m' ∧ News h₀ L h' news' ∧ X m' news'
structure CutStep (h₀ : Heap) (L : Addr) (s : Shared) (J : Nat → (Str → Option Value) → Led → Prop) (n : Nat) (f : Flow) (s₂ : Shared) : Prop where
  out : (f = .next ∨ f = .cont) ∧ ∃ h' tk m' news' n', s₂ = { s with heap := h', toks := tk } ∧ Fr h₀ L h' m' ∧ News h₀ L h' news' ∧ n' < n ∧ J n' m' news'
section
variable {prog : Program} {w : World} {A : Around} {E : Value → Shared → Prop} {Q : Flow → Shared → Prop} {s : Shared} {env : Env} {h₀ : Heap} {L : Addr}
theorem While_cut {test : Expr} {body : List Stmt} {pos : Pos} {m : Str → Option Value} {news : Led} (J : Nat → (Str → Option Value) → Led → Prop) (X : (Str → Option Value) → Led → Prop) {n₀ : Nat}
    (F : Fr h₀ L s.heap m) (N : News h₀ L s.heap news) (hJ : J n₀ m news)
    (turn : ∀ n m₁ news₁ h₁ tk₁, Fr h₀ L h₁ m₁ → News h₀ L h₁ news₁ → J n m₁ news₁ →
      wpAny (model prog w) A (isTrue test env (eval test env)) (fun b s₂ =>
        if b = true then wpAny (model prog w) A (execs body env) (CutStep h₀ L s J n) E s₂ else Cut h₀ L s X s₂) E { s with heap := h₁, toks := tk₁ })
    (rest : ∀ m₁ news₁ h₁ tk₁, Fr h₀ L h₁ m₁ → News h₀ L h₁ news₁ → X m₁ news₁ → Q .next { s with heap := h₁, toks := tk₁ })
    (hE : PassesOwn (model prog w) A env E := by passes_own) :
    wpAny (model prog w) A (exec (.While test body [] pos) env) Q E s := by
  refine While_inv2 J F N hJ (fun n m₁ news₁ h₁ tk₁ F₁ N₁ J₁ => ?_) hE
  refine wpAny_mono (turn n m₁ news₁ h₁ tk₁ F₁ N₁ J₁) (fun b s₂ h => ?_) fun _ _ x => x
  cases b with
  | true =>
    simp only [if_true] at h ⊢
    refine wpAny_mono h (fun f s₃ q => ?_) fun _ _ x => x
    obtain ⟨hf, h', tk, m', news', n', rfl, F', N', hn, hj⟩ := q.out
    rcases hf with rfl | rfl <;> exact ⟨h', tk, m', news', n', rfl, F', N', hn, hj⟩
  | false =>
    simp only [Bool.false_eq_true, if_false] at h ⊢
    obtain ⟨h', tk, m', news', rfl, F', N', hx⟩ := h.out
    exact rest _ _ _ _ F' N' hx
end
end SM0
section SM3
set_option maxHeartbeats 8000000
theorem slot_search : Slot "re.Pattern" "search" "re.Pattern.search" :=
  .of (owner := "re.Pattern") (n := "search") (by rw [typeLookup_type, builtinLookup_eq_fast]; kernel_rfl) (by decide +kernel) (by decide +kernel) (by decide +kernel)
    (by first | exact .inl (by decide +kernel) | exact .inr (by decide +kernel)) (by rw [isSubtype_type]; kernel_rfl)
theorem entry_search : entryFor table "re.Pattern.search" = some Builtin.«re.Pattern.search» := entryFor_of_fast (by kernel_rfl)
theorem args_search (a b : Value) : argsOk "re.Pattern.search" ⟨[a, b], []⟩ := by
  unfold argsOk
  first
    | (rw [signature?_eq_fast]; kernel_rfl)
    | (rw [PySem.signature?_eq_fast]; kernel_rfl)
    | kernel_rfl
def nameCode : Array Nat := #[14, 10, 4, 1, 1, 22, 0, 31, 16, 127, 0, 13, 7, 22, 0, 31, 16, 127, 0, 1]
def valueCode : Array Nat := #[14, 14, 4, 1, 1, 9, 4294966783, 0, 0, 2147483648, 0, 0, 0, 0, 0, 13, 11, 9, 4294966783, 0, 0, 2147483648, 0, 0, 0, 0, 0, 1]
def okSign (c : Nat) : Bool := 32 ≤ c && c ≤ 126
theorem name_step (c : Nat) (seen : Sre.Seen) : Sre.inSet nameCode c 20 5 true seen = (if (decide (0 ≤ c) && decide (c ≤ 31)) = true then .ok (true, seen.add 22) else if (c == 127) = true then .ok (true, (seen.add 22).add 16) else .ok (false, ((seen.add 22).add 16).add 0)) := by kernel_rfl
theorem name_set (c : Nat) (h : okSign c = true) (seen : Sre.Seen) : ∃ seen', Sre.inSet nameCode c 20 5 true seen = .ok (false, seen') := by
  obtain ⟨h1, h2⟩ := Bool.and_eq_true_iff.mp h
  have h1 := of_decide_eq_true h1
  have h2 := Nat.lt_succ_of_le (of_decide_eq_true h2)
  refine ⟨((seen.add 22).add 16).add 0, (name_step c seen).trans ?_⟩
  rw [if_neg (fun q => Nat.lt_irrefl 31 (Nat.lt_of_lt_of_le h1 (of_decide_eq_true (Bool.and_eq_true_iff.mp q).2))), if_neg (fun q => Nat.lt_irrefl 127 (by rw [beq_iff_eq.mp q] at h2; exact h2))]
theorem value_step (c : Nat) (seen : Sre.Seen) : Sre.inSet valueCode c 28 5 true seen = (if (decide (c < 256) && (valueCode.getD (5 + (1 + c / 32)) 0).testBit (c % 32)) = true then .ok (true, seen.add 9) else .ok (false, (seen.add 9).add 0)) := by kernel_rfl
theorem value_set (c : Nat) (h : okSign c = true) (seen : Sre.Seen) : ∃ seen', Sre.inSet valueCode c 28 5 true seen = .ok (false, seen') := by
  obtain ⟨h1, h2⟩ := Bool.and_eq_true_iff.mp h
  have h1 := of_decide_eq_true h1
  have h2 := Nat.lt_succ_of_le (of_decide_eq_true h2)
  have hk : ∀ c : Fin 127, 32 ≤ c.val → ((valueCode.getD (5 + (1 + c.val / 32)) 0).testBit (c.val % 32)) = false := by decide +kernel
  refine ⟨(seen.add 9).add 0, (value_step c seen).trans ?_⟩
  rw [show (valueCode.getD (5 + (1 + c / 32)) 0).testBit (c % 32) = false from hk ⟨c, h2⟩ h1, Bool.and_false]
  rfl
theorem admitted_none {m : Sre.M} {P : Nat → Prop} (hs : ∀ c, P c → ∀ seen, ∃ seen', Sre.inSet m.code c m.code.size 5 true seen = .ok (false, seen')) (ht : ∀ c ∈ m.text.toList, P c) (hl : m.lim ≤ m.text.size) :
    ∀ (fuel s : Nat) (seen : Sre.Seen), ∃ seen', Sre.M.admitted m fuel s seen = .ok (none, seen')
  | 0, s, seen => ⟨seen, rfl⟩
  | fuel + 1, s, seen => by
    unfold Sre.M.admitted
    by_cases h : s ≥ m.lim
    · rw [if_pos h]; exact ⟨seen, rfl⟩
    · rw [if_neg h]
      have hb : s < m.text.size := by omega
      have e : m.text.getD s 0 = m.text[s] := by simp [Array.getD, hb]
      obtain ⟨seen', e'⟩ := hs (m.text.getD s 0) (ht _ (by rw [e]; simp)) seen
      rw [e']
      exact admitted_none hs ht hl fuel (s + 1) seen'
theorem run_said (m : Sre.M) (ho : m.outcome = none) (ha : m.answer = some false) (hf : m.frames = []) : (m.runFor 4).outcome = some .failed ∧ True := by
  obtain ⟨code, text, lim, start, ls, wt, ma, pc, pos, handed, om, marks, lm, li, loops, inner, frames, weight, answer, seen, outcome⟩ := m
  cases ho; cases ha; cases hf
  exact ⟨rfl, trivial⟩
theorem attempt_none {code text : Array Nat} {P : Nat → Prop} {lim : Nat} (m : Sre.M) (h1 : m.code = code) (h2 : m.text = text) (h3 : m.lim = lim) (h4 : m.outcome = none) (h5 : m.frames = []) (hf : m.hasFirstSet = true)
    (hs : ∀ c, P c → ∀ seen, ∃ seen', Sre.inSet code c code.size 5 true seen = .ok (false, seen')) (ht : ∀ c ∈ text.toList, P c) (hl : lim ≤ text.size) (pos : Nat) (first : Bool) :
    ((m.attemptFrom pos first).runFor 4).outcome = some .failed := by
  unfold Sre.M.attemptFrom
  rw [hf]
  simp only [Bool.not_true, Bool.false_eq_true, if_false]
  obtain ⟨seen', e⟩ := admitted_none (m := m) (P := P) (by rw [h1]; exact hs) (by rw [h2]; exact ht) (by rw [h2, h3]; exact hl) (m.lim + 1 - pos) pos m.seen
  rw [e]
  exact (run_said { m with seen := seen', answer := some false } h4 rfl h5).1
theorem forSearch_none {code text : Array Nat} {P : Nat → Prop} (hf : ∀ m : Sre.M, m.code = code → m.hasFirstSet = true)
    (hs : ∀ c, P c → ∀ seen, ∃ seen', Sre.inSet code c code.size 5 true seen = .ok (false, seen')) (ht : ∀ c ∈ text.toList, P c) (pos lim : Nat) (hl : lim ≤ text.size) :
    ((Sre.forSearch code text 0 pos lim false).runFor 4).outcome = some .failed := by
  unfold Sre.forSearch
  dsimp only
  split
  · exact (run_said _ rfl rfl rfl).1
  · exact attempt_none _ rfl rfl rfl rfl rfl (hf _ rfl) hs ht hl pos true
section
variable {prog : Program} {w : World} {A : Around} {E : Value → Shared → Prop} {s : Shared}
theorem re_run {m : Sre.M} (ho : (m.runFor 4).outcome = some .failed) {Q : Option Sre.M → Shared → Prop} (h : Q none s) : wpAny (model prog w) A (Builtin.Re.reRunToEnd m) Q E s := by
  unfold Builtin.Re.reRunToEnd
  refine wpAny_bind ?_
  show wpAny _ _ (Builtin.Re.reDrive (18446744073709551615 + 1) m) _ _ _
  unfold Builtin.Re.reDrive
  dsimp only
  rw [show Builtin.Re.reTurnSteps = 4 from rfl]
  rw [if_pos (by rw [ho]; rfl)]
  refine wpAny_pure ?_
  refine wpAny_bind ?_
  generalize List.range Sre.names.size = ns
  induction ns with
  | nil =>
    rw [ho]
    exact wpAny_pure (wpAny_pure h)
  | cons i r ih =>
    rw [List.forIn_cons]
    refine wpAny_bind ?_
    split
    · exact wpAny_bind (wpAny_rule (wpAny_pure ih))
    · exact wpAny_pure ih
theorem re_search {p c : Addr} {code : Array Nat} {cs : Array Value} {f0 f1 f3 f4 : Value} {n : Nat} {o1 o2 : Obj} {x : Str} {t : Tok} {Q : Value → Shared → Prop}
    (hp : s.heap.get? p = some o1) (hc1 : o1.cls = .type "re.Pattern") (hd1 : o1.data = .fields #[f0, f1, .int 0 0, f3, f4, .ref c, .int 0 0])
    (hc : s.heap.get? c = some o2) (hd2 : o2.data = .seq cs n) (hcode : (cs.map Builtin.Re.reRawOf).map (·.toNat) = code)
    (hf : ∀ m : Sre.M, m.code = code → m.hasFirstSet = true)
    (hs : ∀ d, okSign d = true → ∀ seen, ∃ seen', Sre.inSet code d code.size 5 true seen = .ok (false, seen')) (hx : ∀ d ∈ x.cps.toList, okSign d = true)
    (h : Q .none s) : wpAny (model prog w) A (call (.builtin "re.Pattern.search") [.ref p, .str x t]) Q E s := by
  refine wpAny_call_entry slot_search ⟨o1, hp, hc1⟩ entry_search ?_ (args_search _ _)
  show wpAny _ _ (Builtin.Re.reTarget "re.Pattern.search" "search" ⟨[.ref p, .str x t], []⟩ >>= fun tg => Builtin.Re.reAnswer tg (Sre.forSearch tg.code tg.text tg.groups tg.pos tg.lim false)) _ _ _
  refine wpAny_bind ?_
  unfold Builtin.Re.reTarget
  dsimp only
  refine wpAny_bind (m := Builtin.Re.reNamed "re.Pattern.search" "search" ["string", "pos", "endpos"] 1 [.str x t] []) ?_
  refine wpAny_of_eq (a := [some (.str x t), none, none]) (by kernel_rfl) ?_
  dsimp only
  refine wpAny_bind (wpAny_pure ?_)
  refine wpAny_bind (wpAny_pure ?_)
  refine wpAny_bind (wpAny_fieldsOf hp hd1 ?_)
  refine wpAny_bind (m := Builtin.Re.reTextOf (.str x t)) ?_
  show wpAny _ _ (Sem.pure (x.cps, 0)) _ _ _
  refine wpAny_pure ?_
  dsimp only
  rw [if_neg (by simp), if_neg (by simp [Builtin.Re.reRawNat])]
  refine wpAny_bind ?_
  show wpAny _ _ (Sem.pure ()) _ _ _
  refine wpAny_pure ?_
  refine wpAny_bind ?_
  show wpAny _ _ (Builtin.Re.reRawItems (.ref c)) _ _ _
  unfold Builtin.Re.reRawItems
  refine wpAny_bind (wpAny_seqItems hc hd2 ?_)
  refine wpAny_pure ?_
  refine wpAny_pure ?_
  dsimp only
  rw [Option.getD_some, hcode]
  unfold Builtin.Re.reAnswer
  dsimp only
  refine wpAny_bind (re_run ?_ ?_)
  · exact forSearch_none (P := fun d => okSign d = true) hf hs hx _ _ (Nat.min_le_right _ _)
  · exact wpAny_pure ⟨_, rfl, h⟩
theorem hasFirst_name (m : Sre.M) (h : m.code = nameCode) : m.hasFirstSet = true := by
  unfold Sre.M.hasFirstSet
  rw [h]; rfl
theorem hasFirst_value (m : Sre.M) (h : m.code = valueCode) : m.hasFirstSet = true := by
  unfold Sre.M.hasFirstSet
  rw [h]; rfl
end
theorem plain_pat : PlainAttrs "re.Pattern" :=
  ⟨⟨"object.__getattribute__", by rw [typeLookup_type, builtinLookup_eq_fast]; kernel_rfl, by decide +kernel⟩, by rw [typeLookup_type, builtinLookup_eq_fast]; kernel_rfl⟩
theorem type_search : typeOf (.builtin "re.Pattern.search") = pure (.type "method_descriptor") := by show builtinType _ = _; rw [builtinType_eq_fast]; kernel_rfl
theorem getSearch {prog : Program} {w : World} {A : Around} {E : Value → Shared → Prop} {s : Shared} {p : Addr} {o : Obj} {pl : Sem Bool} {Q : Value × List Value → Shared → Prop} (hp : s.heap.get? p = some o) (hc : o.cls = .type "re.Pattern") (hd : o.dict = none)
    (h : Q (.builtin "re.Pattern.search", [.ref p]) s) : wpAny (model prog w) A (getMethod (.ref p) (Str.ofString "search") pl) Q E s :=
  getMethod_builtin (T := "re.Pattern") ⟨o, hp, hc⟩ plain_pat slot_search type_search (fun a e => by cases e; exact ⟨o, hp, hd⟩) h
section
variable {prog : Program} {w : World} {A : Around} {E : Value → Shared → Prop} {s : Shared} {K : Frag} {h₀ : Heap} {L : Addr} {m : Str → Option Value} {p c : Addr} {dt : Data} {sl : Array (Option Value)}
theorem getSearchK {pl : Sem Bool} {Q : Value × List Value → Shared → Prop} (F : Fr h₀ L s.heap m) (X : K.In h₀) (hp : K.lookup p = some ⟨.type "re.Pattern", none, dt, sl⟩)
    (h : Q (.builtin "re.Pattern.search", [.ref p]) s) : wpAny (model prog w) A (getMethod (.ref p) (Str.ofString "search") pl) Q E s :=
  getSearch (F.keep _ _ (X _ _ hp)) rfl rfl h
theorem searchK {cs : Array Value} {n : Nat} {f0 f1 f3 f4 oc : Value} {od : Option Addr} {sl2 : Array (Option Value)} {x : Str} {t : Tok} {Q : Value → Shared → Prop} (F : Fr h₀ L s.heap m) (X : K.In h₀) (hp : K.lookup p = some ⟨.type "re.Pattern", none, .fields #[f0, f1, .int 0 0, f3, f4, .ref c, .int 0 0], sl⟩)
    (hc : K.lookup c = some ⟨oc, od, .seq cs n, sl2⟩) (hcode : (cs.map Builtin.Re.reRawOf).map (·.toNat) = nameCode ∨ (cs.map Builtin.Re.reRawOf).map (·.toNat) = valueCode) (hx : ∀ d ∈ x.cps.toList, okSign d = true)
    (h : Q .none s) : wpAny (model prog w) A (call (.builtin "re.Pattern.search") [.ref p, .str x t]) Q E s := by
  rcases hcode with e | e
  · exact re_search (F.keep _ _ (X _ _ hp)) rfl rfl (F.keep _ _ (X _ _ hc)) rfl e hasFirst_name name_set hx h
  · exact re_search (F.keep _ _ (X _ _ hp)) rfl rfl (F.keep _ _ (X _ _ hc)) rfl e hasFirst_value value_set hx h
end
end SM3
section SM5
set_option maxHeartbeats 8000000
theorem slot_map_next : Slot "map" "__next__" "map.__next__" :=
  .of (owner := "map") (n := "__next__") (by rw [typeLookup_type, builtinLookup_eq_fast]; kernel_rfl) (by decide +kernel) (by decide +kernel) (by decide +kernel)
    (by first | exact .inl (by decide +kernel) | exact .inr (by decide +kernel)) (by rw [isSubtype_type]; kernel_rfl)
theorem entry_map_next : entryFor table "map.__next__" = some Builtin.«map.__next__» := entryFor_of_fast (by kernel_rfl)
theorem slot_map_iter : Slot "map" "__iter__" "map.__iter__" :=
  .of (owner := "map") (n := "__iter__") (by rw [typeLookup_type, builtinLookup_eq_fast]; kernel_rfl) (by decide +kernel) (by decide +kernel) (by decide +kernel)
    (by first | exact .inl (by decide +kernel) | exact .inr (by decide +kernel)) (by rw [isSubtype_type]; kernel_rfl)
theorem args_map_next (a : Value) : argsOk "map.__next__" ⟨[a], []⟩ := by
  unfold argsOk
  first | (rw [signature?_eq_fast]; kernel_rfl) | kernel_rfl
theorem args_map_iter (a : Value) : argsOk "map.__iter__" ⟨[a], []⟩ := by
  unfold argsOk
  first | (rw [signature?_eq_fast]; kernel_rfl) | kernel_rfl
theorem entry_map_iter : entryFor table "map.__iter__" = some Builtin.«dict_keyiterator.__iter__» :=
  entryFor_alias (id' := "dict_keyiterator.__iter__") (by kernel_rfl) (by first | rfl | decide +kernel | (unfold String.splitOn; simp +decide [String.splitOnAux])) (by decide +kernel) (by kernel_rfl)
theorem map_no_len : typeLookup (.type "map") "__len__" = pure none := by rw [typeLookup_type, builtinLookup_eq_fast]; kernel_rfl
theorem map_no_hint : typeLookup (.type "map") "__length_hint__" = pure none := by rw [typeLookup_type, builtinLookup_eq_fast]; kernel_rfl
abbrev IsMap (h : Heap) (I tp : Addr) : Prop := h.get? I = some { cls := .type "map", data := .fields #[.ref tp, .builtin "str.capitalize"] }
abbrev IsOne (h : Heap) (tp it : Addr) : Prop := h.get? tp = some { cls := .type "tuple", data := .seq #[.ref it] }
section
variable {prog : Program} {w : World} {A : Around} {E : Value → Shared → Prop} {s : Shared}
theorem map_next_item {I tp it l : Addr} {i : Nat} {items : Array Value} {x : Str} {t : Tok} {Q : Value → Shared → Prop} (hI : IsMap s.heap I tp) (hT : IsOne s.heap tp it) (hit : s.heap.IsListIter it l i) (hl : s.heap.IsList l items)
    (hx : items[i]? = some (.str x t)) (hfit : x.length ≤ 5592405) (hne : I ≠ it)
    (hQ : ∀ h' t' k, h'.IsListIter it l (i + 1) → Heap.SameBut it s.heap h' → Q (.str (Txt.capitalize x) t') { s with heap := h', toks := k }) :
    wpAny (model prog w) A (Builtin.«map.__next__» ⟨[.ref I], []⟩) (fun fin s' => ∃ v, fin = .done (.ret v) ∧ Q v s') E s := by
  show wpAny _ _ (field (.ref I) 0 >>= _) _ _ _
  refine wpAny_bind (wpAny_field hI rfl (x := .ref tp) rfl ?_)
  refine wpAny_bind (wpAny_seqItems hT rfl ?_)
  dsimp only
  refine wpAny_bind ?_
  simp only [List.forIn_toArray, List.forIn_cons, List.forIn_nil]
  refine wpAny_bind (wpAny_bind (wpAny_holding (wpAny_nextOf_list_item hit hl hx fun h₁ hit₁ hs₁ => ?_)))
  refine wpAny_pure ?_
  refine wpAny_pure ?_
  have hI₁ : IsMap h₁ I tp := (hs₁.2 I hne).trans hI
  show wpAny _ _ (field (.ref I) 1 >>= _) _ _ _
  refine wpAny_bind (wpAny_field hI₁ rfl (x := .builtin "str.capitalize") rfl ?_)
  refine wpAny_bind (wpAny_holding ?_)
  refine SCL.capitalize hfit fun t' k _ => ?_
  refine wpAny_bind (wpAny_letGo ?_)
  exact wpAny_pure ⟨_, rfl, hQ _ _ _ hit₁ hs₁⟩
theorem map_next {I tp it l : Addr} {i : Nat} {items : Array Value} {x : Str} {t : Tok} {Q : Option Value → Shared → Prop} (hI : IsMap s.heap I tp) (hT : IsOne s.heap tp it) (hit : s.heap.IsListIter it l i) (hl : s.heap.IsList l items)
    (hx : items[i]? = some (.str x t)) (hfit : x.length ≤ 5592405) (hne : I ≠ it)
    (hQ : ∀ h' t' k, h'.IsListIter it l (i + 1) → Heap.SameBut it s.heap h' → Q (some (.str (Txt.capitalize x) t')) { s with heap := h', toks := k }) : wpAny (model prog w) A (pyNext (.ref I)) Q E s := by
  have hT' : s.TypeIs (.ref I) "map" := ⟨_, hI, rfl⟩
  unfold pyNext
  exact wpAny_bind (wpAny_attempt (wpAny_callSpecial?_slot (name := Str.ofString "__next__") hT' slot_map_next
    (wpAny_call_entry slot_map_next hT' entry_map_next (map_next_item hI hT hit hl hx hfit hne fun h' t' k a b => wpAny_pure (hQ h' t' k a b)) (args_map_next _))))
theorem map_end {I tp it l : Addr} {i : Nat} {items : Array Value} {Q : Option Value → Shared → Prop} (hh : A.handled = none) (hI : IsMap s.heap I tp) (hT : IsOne s.heap tp it) (hit : s.heap.IsListIter it l i) (hl : s.heap.IsList l items)
    (hx : items[i]? = none) (hQ : ∀ h', Heap.ExtBut it s.heap h' → Q none { s with heap := h' }) : wpAny (model prog w) A (pyNext (.ref I)) Q E s := by
  have hT' : s.TypeIs (.ref I) "map" := ⟨_, hI, rfl⟩
  unfold pyNext
  refine wpAny_bind (wpAny_attempt (wpAny_callSpecial?_slot (name := Str.ofString "__next__") hT' slot_map_next
    (wpAny_call_entry slot_map_next hT' entry_map_next ?_ (args_map_next _))))
  show wpAny _ _ (field (.ref I) 0 >>= _) _ _ _
  refine wpAny_bind (wpAny_field hI rfl (x := .ref tp) rfl ?_)
  refine wpAny_bind (wpAny_seqItems hT rfl ?_)
  dsimp only
  refine wpAny_bind ?_
  simp only [List.forIn_toArray, List.forIn_cons, List.forIn_nil]
  refine wpAny_bind (wpAny_bind (wpAny_holding (wpAny_nextOf_list_end hh hit hl hx fun h' e he' hx' => ?_)))
  obtain ⟨o, ho, hc⟩ := hx'
  refine wpAny_bind (wpAny_isInstance (T := "StopIteration") (b := true) ⟨o, ho, hc⟩ isSubtype_stop ?_)
  exact wpAny_pure (hQ _ he')
theorem map_iter {I tp : Addr} {Q : Value → Shared → Prop} (hI : IsMap s.heap I tp) (h : Q (.ref I) s) : wpAny (model prog w) A (pyIter (.ref I)) Q E s := by
  have hT : s.TypeIs (.ref I) "map" := ⟨_, hI, rfl⟩
  refine wpAny_pyIter_slot hT slot_map_iter (wpAny_call_entry slot_map_iter hT entry_map_iter ?_ (args_map_iter _))
  show wpAny _ _ (ret (.ref I)) _ _ s
  exact wpAny_pure ⟨_, rfl, "map", _, hT, slot_map_next.lookup, h⟩
theorem mapWalks (hh : A.handled = none) {I tp it l : Addr} (ps : List (Str × Tok)) (hfit : ∀ p ∈ ps, p.1.length ≤ 5592405) (h1 : I ≠ it) (h2 : tp ≠ it) (h3 : l ≠ it) :
    Walks prog w A I [I, tp, it, l] [it] ps.length (fun i v => ∃ p t', ps[i]? = some p ∧ v = .str (Txt.capitalize p.1) t') (fun i h => IsMap h I tp ∧ IsOne h tp it ∧ h.IsListIter it l i ∧ h.IsList l (strValues ps).toArray) where
  sub := fun b hb => by simp at hb; simp [hb]
  frame := fun _ _ _ st hk => ⟨hk I (by simp) _ st.1, hk tp (by simp) _ st.2.1, st.2.2.1.at fun o e => hk it (by simp) o e, st.2.2.2.at fun o e => hk l (by simp) o e⟩
  item := fun i s Q E hi st hQ => by
    have e : ps[i]? = some ps[i] := List.getElem?_eq_getElem hi
    refine map_next st.1 st.2.1 st.2.2.1 st.2.2.2 (x := ps[i].1) (t := ps[i].2) (by simp [strValues, hi]) (hfit _ (List.getElem_mem hi)) h1 fun h' t' k hit' hs' => ?_
    exact hQ _ h' k ⟨_, t', e, rfl⟩ ⟨hs'.extBut _ _ h1 st.1, hs'.extBut _ _ h2 st.2.1, hit', st.2.2.2.extBut hs'.extBut h3⟩ fun b o hb e => hs'.extBut b o (fun h => hb (by simp [h])) e
  done := fun s Q E st hQ => map_end hh st.1 st.2.1 st.2.2.1 st.2.2.2 (by simp [strValues]) fun h' he' => hQ h' s.toks fun b o hb e => he' b o (fun h => hb (by simp [h])) e
  self := fun _ _ _ _ st hQ => map_iter st.1 hQ
end
end SM5
section SM7
set_option maxHeartbeats 8000000
def selScope : Scope := { kind := .function, names := [(Str.ofString "context", .local), (Str.ofString "result", .local), (Str.ofString "parent_map", .local), (Str.ofString "result_map", .local), (Str.ofString "elem", .local), (Str.ofString "parent", .local), (Str.ofString "get_parent_map", .globalImplicit)], isGenerator := true, isCoroutine := false, more := [] }
abbrev nm (x : String) (p : Pos) : Expr := .Name (Str.ofString x) p
section
variable {prog : Program} {w : World} {A : Around} {E : Value → Shared → Prop} {s : Shared} {env : Env} {m : Str → Option Value}
theorem name_ok {x : String} {p : Pos} {v : Value} {Q : Value → Shared → Prop} (hk : env.scope.kind = .function) (hl : env.kindOf (Str.ofString x) = some .local) (hn : s.heap.Ns env.locals m) (hv : m (Str.ofString x) = some v) (h : Q v s)
    (hd : (Str.ofString x == ("__debug__" : Str)) = false := by decide) : wpAny (model prog w) A (eval (nm x p) env) Q E s :=
  wpAny_Name (wpAny_loadName_local hk hl hn hv h) hd
theorem sel_test {q : Str} {L S : Addr} {cdv : Value} {d : Addr} {f : Str → Option Value} {x : Str} {t : Tok} {p1 p2 p3 : Pos} {whole : Sem Value} {Q : Bool → Shared → Prop} (hn : s.heap.Ns L m) (h1 : m (Str.ofString "elem") = some (.str x t)) (h2 : m (Str.ofString "parent_map") = some (.ref d))
    (hm : s.heap.MapOf (PySem.strKind prog w) d f) (hd : (d == sysModules) = false) (h : Q (f x).isSome { s with toks := s.toks + 1 }) :
    wpAny (model prog w) A (isTrue (.Compare (nm "elem" p1) [.In] [nm "parent_map" p2] p3) (envOf q selScope L S cdv) whole) Q E s := by
  refine wpAny_isTrue_Compare1 (name_ok rfl rfl hn h1 (name_ok rfl rfl hn h2 (wpAny_in_of (knd := PySem.strKind prog w) (k := x) ?_ hd hm (wpAny_truthy_bool h))))
  simp [PySem.strKind, Value.isStrOf]
theorem sel_notin {q : Str} {L S : Addr} {cdv : Value} {d : Addr} {f : Str → Option Value} {x : Str} {t : Tok} {p1 p2 p3 : Pos} {whole : Sem Value} {Q : Bool → Shared → Prop} (hn : s.heap.Ns L m) (h1 : m (Str.ofString "parent") = some (.str x t)) (h2 : m (Str.ofString "result_map") = some (.ref d))
    (hm : s.heap.MapOf (PySem.strKind prog w) d f) (hd : (d == sysModules) = false) (h : Q (!(f x).isSome) { s with toks := s.toks + 1 }) :
    wpAny (model prog w) A (isTrue (.Compare (nm "parent" p1) [.NotIn] [nm "result_map" p2] p3) (envOf q selScope L S cdv) whole) Q E s := by
  refine wpAny_isTrue_Compare1 (name_ok rfl rfl hn h1 (name_ok rfl rfl hn h2 (wpAny_notIn_of (knd := PySem.strKind prog w) (k := x) ?_ hd hm (wpAny_truthy_bool h))))
  simp [PySem.strKind, Value.isStrOf]
theorem sel_get {q : Str} {L S : Addr} {cdv : Value} {d : Addr} {f : Str → Option Value} {x : Str} {t : Tok} {v : Value} {p1 p2 p3 p4 p5 : Pos} {Q : Flow → Shared → Prop} (hn : s.heap.Ns L m) (h1 : m (Str.ofString "elem") = some (.str x t)) (h2 : m (Str.ofString "parent_map") = some (.ref d))
    (hm : s.heap.MapOf (PySem.strKind prog w) d f) (hd : (d == sysModules) = false) (hv : f x = some v)
    (h : ∀ h' tk, h'.Ns L (fun y => if y = Str.ofString "parent" then some v else m y) → Heap.SameBut L s.heap h' → s.toks ≤ tk → Q .next { s with heap := h', toks := tk }) :
    wpAny (model prog w) A (exec (.Assign [nm "parent" p1] (.Subscript (nm "parent_map" p2) (nm "elem" p3) p4) p5) (envOf q selScope L S cdv)) Q E s := by
  refine wpAny_Assign_Name (wpAny_Subscript_Name_late (name_ok rfl rfl hn h2 (name_ok rfl rfl hn h1 ⟨"dict", _, slot_dict_getitem.lookup, hm.typeIs, wpAny_getItem_of (knd := PySem.strKind prog w) (k := x) ?_ hm hv (wpAny_storeName_local rfl hn fun h' a b => h h' _ a b ?_)⟩)))
  · simp [PySem.strKind, Value.isStrOf]
  · show s.toks ≤ s.toks + 1 + 1
    omega
theorem sel_set {q : Str} {L S : Addr} {cdv : Value} {d : Addr} {kvs : List (Str × Value)} {x : Str} {t : Tok} {k : Nat} {p1 p2 p3 p4 p5 : Pos} {Q : Flow → Shared → Prop} (hn : s.heap.Ns L m) (h1 : m (Str.ofString "parent") = some (.str x t)) (h2 : m (Str.ofString "result_map") = some (.ref d))
    (hm : s.heap.DictOf (PySem.strKind prog w) d kvs) (hz : kvs.length ≤ sizeLine)
    (h : ∀ h', h'.DictOf (PySem.strKind prog w) d (stored kvs x .none) → Heap.SameBut d s.heap h' → Q .next { s with heap := h', toks := s.toks + 1 }) :
    wpAny (model prog w) A (exec (.Assign [.Subscript (nm "result_map" p1) (nm "parent" p2) p3] (.Constant .none k p4) p5) (envOf q selScope L S cdv)) Q E s := by
  refine wpAny_Assign_Subscript (wpAny_Constant_none (name_ok rfl rfl hn h2 (name_ok rfl rfl hn h1 (wpAny_setItem_pairs (knd := PySem.strKind prog w) (k := x) ?_ hm (fun h' a b => h h' a b) hz))))
  simp [PySem.strKind, Value.isStrOf]
end
section
variable {M : Model} {A : Around} {R : GenEnd} {Y : Protocol} {n : Nat} {s₀ : Shared} {c : Code} {fs : List Frame} {s : Shared} {env : Env}
  {K : Flow → Sem Fin} {H : Value → Sem Fin} {gd : Bool → Bool} {lv : List Value → List Value}
theorem seg_If {test : Expr} {body orelse : List Stmt} {pos : Pos}
    (h : wpAny M (A.over c fs) (isTrue test env (eval test env)) (fun b s' => if b = true then Seg M A R Y n s₀ c ((execs body env).wrap K H gd lv) fs s' else Seg M A R Y n s₀ c ((execs orelse env).wrap K H gd lv) fs s')
      (fun x s' => Seg M A R Y n s₀ c (H x) fs s') s) : Seg M A R Y n s₀ c ((exec (.If test body orelse pos) env).wrap K H gd lv) fs s := by
  rw [exec_If]
  refine seg_bind_wrap (wpAny_standAt ?_)
  refine seg_bind_wrap (wpAny_mono h (fun b s' hb => ?_) fun _ _ x => x)
  cases b with
  | true => simpa using hb
  | false => simpa using hb
theorem seg_stmt {st : Stmt} {rest : List Stmt} (h : wpAny M (A.over c fs) (exec st env) (fun f s' => f = .next ∧ Seg M A R Y n s₀ c ((execs rest env).wrap K H gd lv) fs s') (fun x s' => Seg M A R Y n s₀ c (H x) fs s') s) :
    Seg M A R Y n s₀ c ((execs (st :: rest) env).wrap K H gd lv) fs s := by
  refine seg_execs_cons (seg_wrap (wpAny_mono h (fun f s' hf => ?_) fun _ _ x => x))
  obtain ⟨rfl, hf⟩ := hf
  exact hf
theorem seg_For {x : Str} {px : Pos} {iter : Expr} {body : List Stmt} {pos : Pos} (hs : ∀ x, foldedSetIterable iter env x = pure x)
    (h : wpAny M (A.over c fs) (eval iter env) (fun xv s₁ => wpAny M (A.over c fs) (pyIter xv) (fun it s₂ => ∀ p, Seg M A R Y n s₀ (.forLoop (.Name x px) it body [] env) (M.den (.forLoop (.Name x px) it body [] env))
      (.ret (fun r => ((match r with | .ok f => (.pure f : Sem Flow) | .error e => .raise e).onRaise fun (x : Value) => do
        if (← field x 1) == Value.none then unsupported "frame.own-activation:exception-without-traceback"
        setFlight x env.frame).wrap K H gd lv) none (gd false) (lv []) c p [] :: fs) s₂) (fun x s' => Seg M A R Y n s₀ c (H x) fs s') s₁) (fun x s' => Seg M A R Y n s₀ c (H x) fs s') s) :
    Seg M A R Y n s₀ c ((exec (.For (.Name x px) iter body [] pos) env).wrap K H gd lv) fs s := by
  show Seg M A R Y n s₀ c ((standAt pos >>= fun _ => eval iter env >>= fun v => foldedSetIterable iter env v >>= fun x' => standAt iter.pos >>= fun _ => holding [x'] (pyIter x') >>= fun it => runOwn (.forLoop (.Name x px) it body [] env) env).wrap K H gd lv) fs s
  refine seg_bind_wrap (wpAny_standAt ?_)
  refine seg_bind_wrap (wpAny_mono h (fun xv s₁ h₁ => ?_) fun _ _ x => x)
  rw [hs]
  refine seg_bind_wrap (wpAny_pure ?_)
  refine seg_bind_wrap (wpAny_standAt ?_)
  refine seg_bind_wrap (wpAny_holding (wpAny_mono h₁ (fun it s₂ h₂ => ?_) fun _ _ x => x))
  exact seg_call h₂
end
section
variable {prog : Program} {w : World} {A : Around} {R : GenEnd} {Y : Protocol} {n : Nat} {s₀ : Shared} {fs : List Frame} {s : Shared} {env : Env}
abbrev loopEnd (env : Env) : Value → Sem Fin := fun e => (do noteFrame e env; theTreesLotGoes e : Sem Unit).wrap (fun _ => .raise e) .raise id id
theorem seg_forLoop {x : Str} {px : Pos} {it : Value} {body : List Stmt}
    (h : wpAny (model prog w) (A.over (.forLoop (.Name x px) it body [] env) fs) (pyNext it) (fun r s₁ => match r with
      | none => Seg (model prog w) A R Y n s₀ (.forLoop (.Name x px) it body [] env) (.pure (.again (.block [] env))) fs s₁
      | some v => wpAny (model prog w) (A.over (.forLoop (.Name x px) it body [] env) fs) (storeName env x v) (fun _ s₂ => Seg (model prog w) A R Y n s₀ (.forLoop (.Name x px) it body [] env) ((execs body env).wrap (fun f => match f with
            | .next | .cont => .pure (.again (.forLoop (.Name x px) it body [] env))
            | .brk => .pure (.done .next)
            | .ret v => .pure (.done (.ret v))) (loopEnd env) id id) fs s₂) (fun _ _ => False) s₁) (fun _ _ => False) s) :
    Seg (model prog w) A R Y n s₀ (.forLoop (.Name x px) it body [] env) ((model prog w).den (.forLoop (.Name x px) it body [] env)) fs s := by
  show Seg _ A R Y n s₀ _ ((forTurn (.Name x px) it body [] env).onRaise (fun x => do noteFrame x env; theTreesLotGoes x)) fs s
  unfold forTurn
  rw [Sem.onRaise_eq_wrap]
  refine seg_bind_wrap (wpAny_standAt ?_)
  refine seg_bind_wrap (wpAny_onRaise ?_)
  refine wpAny_mono h (fun r s₁ h₁ => ?_) fun _ _ x => x.elim
  cases r with
  | none => exact h₁
  | some v =>
    refine seg_bind_wrap (wpAny_of_eq (rfl : letOwnedTupleGo (.Name x px) it v = pure ()) ?_)
    refine seg_bind_wrap (wpAny_assign_Name (wpAny_mono h₁ (fun _ s₂ h₂ => ?_) fun _ _ x => x.elim))
    rw [Sem.bind_eq_wrap', Sem.wrap_wrap]
    rw [Sem.wrap_congr (execs body env) _ _ (K' := fun f => match f with
            | .next | .cont => .pure (.again (.forLoop (.Name x px) it body [] env))
            | .brk => .pure (.done .next)
            | .ret v => .pure (.done (.ret v))) (H' := loopEnd env)
        (fun f => by cases f <;> rfl)
        (fun e => by first | exact Sem.bind_eq_wrap _ _ | (show (do noteFrame e env; theTreesLotGoes e : Sem Unit).bind (fun _ => .raise e) = _; rw [Sem.bind_eq_wrap]))]
    exact h₂
end
end SM7
section SM8
set_option maxHeartbeats 8000000
structure Mv (wr : List Addr) (gf : List Nat) (own : Shared → Addr → Prop) (s s' : Shared) : Prop where
  heap : ∀ b o, b ∉ wr → ¬ own s b → s.heap.get? b = some o → s'.heap.get? b = some o
  alive : ∀ b o, s.heap.get? b = some o → ∃ o', s'.heap.get? b = some o'
  own : ∀ b, own s' b → own s b ∨ s.heap.get? b = none
  gens : ∀ k, k ∉ gf → s'.gens[k]? = s.gens[k]?
  bare : (∀ y ∈ s.gens, y.bare = true) → ∀ y ∈ s'.gens, y.bare = true
  drawn : s'.drawn = s.drawn
  os : s'.os = s.os
  toks : s.toks ≤ s'.toks
namespace Mv
variable {wr wr' : List Addr} {gf gf' : List Nat} {own own' : Shared → Addr → Prop} {s s' s'' : Shared}
theorem refl : Mv wr gf own s s := ⟨fun _ _ _ _ e => e, fun _ _ e => ⟨_, e⟩, fun _ h => .inl h, fun _ _ => rfl, fun h => h, rfl, rfl, Nat.le_refl _⟩
theorem trans (x : Mv wr gf own s s') (y : Mv wr gf own s' s'') : Mv wr gf own s s'' where
  heap := fun b o h1 h2 e => y.heap b o h1 (fun h => (x.own b h).elim h2 fun z => by rw [z] at e; cases e) (x.heap b o h1 h2 e)
  alive := fun b o e => let ⟨_, e'⟩ := x.alive b o e; y.alive b _ e'
  own := fun b h => (y.own b h).elim (fun h => x.own b h) fun z => .inr (by
    cases e : s.heap.get? b with
    | none => rfl
    | some o => obtain ⟨o', e'⟩ := x.alive b o e; rw [z] at e'; cases e')
  gens := fun k hk => (y.gens k hk).trans (x.gens k hk)
  bare := fun h => y.bare (x.bare h)
  drawn := y.drawn.trans x.drawn
  os := y.os.trans x.os
  toks := Nat.le_trans x.toks y.toks
theorem at_ {a : Addr} {h' : Heap} {tk : Nat} (ha : a ∈ wr ∨ own s a) (hs : Heap.SameBut a s.heap h') (hl : ∃ o, h'.get? a = some o) (ho : ∀ b, own { s with heap := h', toks := tk } b → own s b) (ht : s.toks ≤ tk) :
    Mv wr gf own s { s with heap := h', toks := tk } :=
  ⟨fun b o h1 h2 e => (hs.2 b (fun h => by subst h; exact ha.elim h1 h2)).trans e,
   fun b o e => by
    by_cases h : b = a
    · subst h; exact hl
    · exact ⟨o, (hs.2 b h).trans e⟩,
   fun b h => .inl (ho b h), fun _ _ => rfl, fun h => h, rfl, rfl, ht⟩
end Mv
structure Mw (wr : List Addr) (gf : List Nat) (own : Shared → Addr → Prop) (s s' : Shared) : Prop where
  heap : ∀ b o, b ∉ wr → ¬ own s b → s.heap.get? b = some o → s'.heap.get? b = some o
  gens : ∀ k, k ∉ gf → s'.gens[k]? = s.gens[k]?
  bare : (∀ y ∈ s.gens, y.bare = true) → ∀ y ∈ s'.gens, y.bare = true
  drawn : s'.drawn = s.drawn
  os : s'.os = s.os
  toks : s.toks ≤ s'.toks
theorem Mv.weak {wr : List Addr} {gf : List Nat} {own : Shared → Addr → Prop} {s s' : Shared} (x : Mv wr gf own s s') : Mw wr gf own s s' := ⟨x.heap, x.gens, x.bare, x.drawn, x.os, x.toks⟩
theorem Mv.thenw {wr : List Addr} {gf : List Nat} {own : Shared → Addr → Prop} {s s' s'' : Shared} (x : Mv wr gf own s s') (y : Mw wr gf own s' s'') : Mw wr gf own s s'' where
  heap := fun b o h1 h2 e => y.heap b o h1 (fun h => (x.own b h).elim h2 fun z => by rw [z] at e; cases e) (x.heap b o h1 h2 e)
  gens := fun k hk => (y.gens k hk).trans (x.gens k hk)
  bare := fun h => y.bare (x.bare h)
  drawn := y.drawn.trans x.drawn
  os := y.os.trans x.os
  toks := Nat.le_trans x.toks y.toks
structure It (prog : Program) (w : World) (D U : Nat) (I : Addr) (fp wr : List Addr) (gf : List Nat) (own : Shared → Addr → Prop) (St : List Str → Shared → Prop) : Prop where
  sub : ∀ b ∈ wr, b ∈ fp
  ownAt : ∀ (s : Shared) h' tk gn b, (∀ b o, b ∈ fp → s.heap.get? b = some o → h'.get? b = some o) → (∃ xs, St xs s) → own { s with heap := h', toks := tk, gens := gn } b → own s b
  ownFwd : ∀ (s : Shared) h' tk gn b, (∀ b o, b ∈ fp → s.heap.get? b = some o → h'.get? b = some o) → (∃ xs, St xs s) → own s b → own { s with heap := h', toks := tk, gens := gn } b
  ownLive : ∀ xs s b, St xs s → own s b → ∃ o, s.heap.get? b = some o
  frame : ∀ xs (s : Shared) h' tk gn, St xs s → s.toks ≤ tk → (∀ b o, b ∈ fp ∨ own s b → s.heap.get? b = some o → h'.get? b = some o) → (∀ k ∈ gf, gn[k]? = s.gens[k]?) → St xs { s with heap := h', toks := tk, gens := gn }
  item : ∀ (A : Around) x xs (s : Shared) (Q : Option Value → Shared → Prop) (E : Value → Shared → Prop), A.handled = none → A.depth ≤ D → A.units ≤ U → St (x :: xs) s →
    (∀ t s', St xs s' → Mv wr gf own s s' → Q (some (.str x t)) s') → wpAny (model prog w) A (pyNext (.ref I)) Q E s
  done : ∀ (A : Around) (s : Shared) (Q : Option Value → Shared → Prop) (E : Value → Shared → Prop), A.handled = none → A.depth ≤ D → A.units ≤ U → St [] s →
    (∀ s', Mw wr gf own s s' → Q none s') → wpAny (model prog w) A (pyNext (.ref I)) Q E s
  self : ∀ (A : Around) xs (s : Shared) (Q : Value → Shared → Prop) (E : Value → Shared → Prop), St xs s → Q (.ref I) s → wpAny (model prog w) A (pyIter (.ref I)) Q E s
def selR (F : Str → Option Str) : List Str → List Str → List Str
  | _, [] => []
  | seen, x :: xs => match F x with
    | none => selR F seen xs
    | some p => if p ∈ seen then selR F seen xs else p :: selR F (seen ++ [p]) xs
abbrev nones (seen : List Str) : List (Str × Value) := seen.map fun x => (x, Value.none)
theorem stored_nones {seen : List Str} {p : Str} (h : p ∉ seen) : stored (nones seen) p .none = nones (seen ++ [p]) := by
  unfold stored
  rw [if_neg]
  · simp [nones]
  · simp only [nones, List.any_map, List.any_eq_true, Function.comp, decide_eq_true_eq, not_exists, not_and]
    rintro y hy rfl
    exact h hy
theorem valueAt_nones (seen : List Str) (p : Str) : (valueAt (nones seen) p).isSome = decide (p ∈ seen) := by
  unfold valueAt nones
  rw [Option.isSome_map, List.find?_map, Option.isSome_map, Bool.eq_iff_iff, List.find?_isSome]
  simp
def selOwn (L : Addr) (own₀ : Shared → Addr → Prop) (s : Shared) (b : Addr) : Prop := (∃ m, s.heap.Ns L m ∧ m (Str.ofString "result_map") = some (.ref b)) ∨ own₀ s b
structure SelAt (prog : Program) (w : World) (L d rm : Addr) (fv : Str → Option Value) (seen : List Str) (m : Str → Option Value) (h : Heap) : Prop where
  ns : h.Ns L m
  pm : m (Str.ofString "parent_map") = some (.ref d)
  rmm : m (Str.ofString "result_map") = some (.ref rm)
  map : h.MapOf (PySem.strKind prog w) d fv
  res : h.DictOf (PySem.strKind prog w) rm (nones seen)
theorem dict_live {prog : Program} {w : World} {h : Heap} {d : Addr} {kvs : List (Str × Value)} (x : h.DictOf (PySem.strKind prog w) d kvs) : ∃ o, h.get? d = some o := let ⟨o, _, _, e, _⟩ := x; ⟨o, e⟩
theorem map_live {prog : Program} {w : World} {h : Heap} {d : Addr} {f : Str → Option Value} (x : h.MapOf (PySem.strKind prog w) d f) : ∃ o, h.get? d = some o := let ⟨o, _, _, e, _⟩ := x; ⟨o, e⟩
theorem ns_live {h : Heap} {d : Addr} {m : Str → Option Value} (x : h.Ns d m) : ∃ o, h.get? d = some o := let ⟨o, _, _, e, _⟩ := x; ⟨o, e⟩
theorem map_at {prog : Program} {w : World} {h h' : Heap} {d : Addr} {f : Str → Option Value} (x : h.MapOf (PySem.strKind prog w) d f) (hk : ∀ o, h.get? d = some o → h'.get? d = some o) : h'.MapOf (PySem.strKind prog w) d f := let ⟨o, es, ep, e, r⟩ := x; ⟨o, es, ep, hk o e, r⟩
def Res (fp : List Addr) (gf : List Nat) (own : Shared → Addr → Prop) (s s'' : Shared) : Prop :=
  ∃ h' tk gn, s'' = { s with heap := h', toks := tk, gens := gn } ∧ s.toks ≤ tk ∧ (∀ b o, b ∈ fp ∨ own s b → s.heap.get? b = some o → h'.get? b = some o) ∧ ∀ k ∈ gf, gn[k]? = s.gens[k]?
section
variable {prog : Program} {w : World} {A : Around}
abbrev selBody (P : Nat → Pos) (kz : Nat) : List Stmt :=
  [.If (.Compare (nm "elem" (P 11)) [.In] [nm "parent_map" (P 12)] (P 13)) [.Assign [nm "parent" (P 14)] (.Subscript (nm "parent_map" (P 15)) (nm "elem" (P 16)) (P 17)) (P 18),
    .If (.Compare (nm "parent" (P 19)) [.NotIn] [nm "result_map" (P 20)] (P 21)) [.Assign [.Subscript (nm "result_map" (P 22)) (nm "parent" (P 23)) (P 24)] (.Constant .none kz (P 25)) (P 26), .Expr (.Yield (some (nm "parent" (P 27))) (P 28)) (P 29)] [] (P 30)] [] (P 31)]
theorem SelAt.keep {L d rm : Addr} {fv : Str → Option Value} {seen : List Str} {m : Str → Option Value} {h h' : Heap} (x : SelAt prog w L d rm fv seen m h) (h1 : ∀ o, h.get? L = some o → h'.get? L = some o) (h2 : ∀ o, h.get? d = some o → h'.get? d = some o) (h3 : ∀ o, h.get? rm = some o → h'.get? rm = some o) : SelAt prog w L d rm fv seen m h' :=
  ⟨x.ns.at' h1, x.pm, x.rmm, map_at x.map h2, x.res.at h3⟩
theorem mv_lift {L : Addr} {wr₀ : List Addr} {gf₀ : List Nat} {own₀ : Shared → Addr → Prop} {s s' : Shared} {m : Str → Option Value} (x : Mv wr₀ gf₀ own₀ s s') (hn : s.heap.Ns L m) (h1 : L ∉ wr₀) (h2 : ¬ own₀ s L) : Mv (L :: wr₀) gf₀ (selOwn L own₀) s s' where
  heap := fun b o hb ho e => x.heap b o (fun h => hb (List.mem_cons_of_mem _ h)) (fun h => ho (.inr h)) e
  alive := x.alive
  own := fun b h => by
    rcases h with ⟨m', hn', e⟩ | h
    · exact .inl (.inl ⟨m, hn, by rw [← e]; exact (hn.at' fun o e' => x.heap L o h1 h2 e').agree hn' _⟩)
    · exact (x.own b h).imp_left .inr
  gens := x.gens
  bare := x.bare
  drawn := x.drawn
  os := x.os
  toks := x.toks
theorem mw_lift {L : Addr} {wr₀ : List Addr} {gf₀ : List Nat} {own₀ : Shared → Addr → Prop} {s s' : Shared} (x : Mw wr₀ gf₀ own₀ s s') : Mw (L :: wr₀) gf₀ (selOwn L own₀) s s' :=
  ⟨fun b o hb ho e => x.heap b o (fun h => hb (List.mem_cons_of_mem _ h)) (fun h => ho (.inr h)) e, x.gens, x.bare, x.drawn, x.os, x.toks⟩
theorem mv_store {D U : Nat} {I₀ : Addr} {fp₀ wr₀ : List Addr} {gf₀ : List Nat} {own₀ : Shared → Addr → Prop} {St₀ : List Str → Shared → Prop} (I : It prog w D U I₀ fp₀ wr₀ gf₀ own₀ St₀) {L : Addr} (hLf : L ∉ fp₀) {s : Shared} {xs : List Str} (hst : St₀ xs s)
    {m : Str → Option Value} (hn : s.heap.Ns L m) {h' : Heap} {tk : Nat} {n : Str} {v : Value} (hn' : h'.Ns L fun y => if y = n then some v else m y) (hs : Heap.SameBut L s.heap h') (ht : s.toks ≤ tk) (hne : Str.ofString "result_map" ≠ n) :
    Mv (L :: wr₀) gf₀ (selOwn L own₀) s { s with heap := h', toks := tk } := by
  refine Mv.at_ (.inl (List.mem_cons_self ..)) hs (ns_live hn') (fun b h => ?_) ht
  rcases h with ⟨m', hm', e⟩ | h
  · refine .inl ⟨m, hn, ?_⟩
    rw [← e, ← hn'.agree hm', if_neg hne]
  · exact .inr (I.ownAt s h' tk s.gens b (fun b o hb e => (hs.2 b fun h => hLf (h ▸ hb)).trans e) ⟨xs, hst⟩ h)
theorem mv_set {D U : Nat} {I₀ : Addr} {fp₀ wr₀ : List Addr} {gf₀ : List Nat} {own₀ : Shared → Addr → Prop} {St₀ : List Str → Shared → Prop} (I : It prog w D U I₀ fp₀ wr₀ gf₀ own₀ St₀) {L : Addr} {s : Shared} {xs : List Str} (hst : St₀ xs s)
    {m : Str → Option Value} (hn : s.heap.Ns L m) {rm : Addr} (hrm : m (Str.ofString "result_map") = some (.ref rm)) (h1 : rm ≠ L) (h2 : rm ∉ fp₀) {h' : Heap} {tk : Nat} {kvs : List (Str × Value)} (hd : h'.DictOf (PySem.strKind prog w) rm kvs) (hs : Heap.SameBut rm s.heap h') (ht : s.toks ≤ tk) :
    Mv (L :: wr₀) gf₀ (selOwn L own₀) s { s with heap := h', toks := tk } := by
  refine Mv.at_ (.inr (.inl ⟨m, hn, hrm⟩)) hs (dict_live hd) (fun b h => ?_) ht
  rcases h with ⟨m', hm', e⟩ | h
  · refine .inl ⟨m, hn, ?_⟩
    rw [← e]; exact (hn.sameBut hs (Ne.symm h1)).agree hm' _
  · exact .inr (I.ownAt s h' tk s.gens b (fun b o hb e => (hs.2 b fun h => h2 (h ▸ hb)).trans e) ⟨xs, hst⟩ h)
theorem sel_loop {D U : Nat} {I₀ : Addr} {fp₀ wr₀ ex : List Addr} {gf₀ : List Nat} {own₀ : Shared → Addr → Prop} {St₀ : List Str → Shared → Prop} (I : It prog w D U I₀ fp₀ wr₀ gf₀ own₀ St₀)
    {fv : Str → Option Value} {F : Str → Option Str} (hfv : ∀ x, (fv x = none ∧ F x = none) ∨ ∃ p t, fv x = some (.str p t) ∧ F x = some p)
    {q : Str} {L S d : Addr} {cdv : Value} (hLf : L ∉ fp₀) (hdL : d ≠ L) (hdw : d ∉ wr₀) (hds : (d == sysModules) = false)
    {P : Nat → Pos} {px p : Pos} {kz : Nat} {k : Result → Sem Fin} {lv : List Value} {cfun : Code} {outs : List Str}
    {R : GenEnd} {Y : Protocol} {Ex : Shared → Prop} {rm : Addr} (hEx : ∀ s m, s.heap.Ns L m → m (Str.ofString "result_map") = some (.ref rm) → Ex s)
    (hk : ∀ s₀ s, Ex s₀ → Mw (L :: wr₀) gf₀ (selOwn L own₀) s₀ s → Seg (model prog w) A R Y 0 s₀ cfun (k (.ok .next)) [] s)
    (hY : ∀ n s₀ y t s kap m xs seen, Ex s₀ → outs.reverse[n]? = some y → Mv (L :: wr₀) gf₀ (selOwn L own₀) s₀ s → SelAt prog w L d rm fv seen m s.heap → St₀ xs s → ¬ own₀ s L → (∀ b ∈ ex, (∃ o, s.heap.get? b = some o) ∧ ¬ own₀ s b) → (∀ s'', Res (L :: d :: fp₀ ++ ex) gf₀ (selOwn L own₀) s s'' → kap (.send .none) s'') → Y n s₀ (.str y t) s kap)
    (hh : (A.over (.forLoop (nm "elem" px) (.ref I₀) (selBody P kz) [] (envOf q selScope L S cdv)) [.ret k none false lv cfun p []]).handled = none)
    (hD : (A.over (.forLoop (nm "elem" px) (.ref I₀) (selBody P kz) [] (envOf q selScope L S cdv)) [.ret k none false lv cfun p []]).depth ≤ D)
    (hU : (A.over (.forLoop (nm "elem" px) (.ref I₀) (selBody P kz) [] (envOf q selScope L S cdv)) [.ret k none false lv cfun p []]).units ≤ U) :
    ∀ (rest seen : List Str) (s₀ s : Shared) (m : Str → Option Value), (∃ pre, outs = pre ++ selR F seen rest) → seen.length + rest.length ≤ 1000 → St₀ rest s → SelAt prog w L d rm fv seen m s.heap →
      rm ≠ L → rm ∉ fp₀ → (rm == sysModules) = false → ¬ own₀ s rm → d ≠ rm → ¬ own₀ s d → ¬ own₀ s L → (∀ b ∈ ex, (∃ o, s.heap.get? b = some o) ∧ ¬ own₀ s b) → Ex s₀ → Mv (L :: wr₀) gf₀ (selOwn L own₀) s₀ s →
      Seg (model prog w) A R Y (selR F seen rest).length s₀
        (.forLoop (nm "elem" px) (.ref I₀) (selBody P kz) [] (envOf q selScope L S cdv))
        ((model prog w).den (.forLoop (nm "elem" px) (.ref I₀) (selBody P kz) [] (envOf q selScope L S cdv))) [.ret k none false lv cfun p []] s := by
  revert prog w A D U I₀ fp₀ wr₀ ex gf₀ own₀ St₀ fv F q L S d cdv P px p kz k lv cfun outs R Y Ex rm
  intro PK prog w A D U I₀ fp₀ wr₀ ex gf₀ own₀ St₀
  intro I
  intro PK fv F
  intro hfv
  intro PK q L S d cdv
  intro hLf hdL hdw hds
  intro PK P px p kz k lv cfun outs R Y Ex rm
  intro hEx hk hY hh hD hU
  have hLw : L ∉ wr₀ := fun h => hLf (I.sub _ h)
  intro rest
  induction rest with
  | nil =>
    intro seen s₀ s m hpre hlen hst sa h1 h2 hrs h3 h4 h5 h6 hav hex hmv
    refine seg_forLoop (I.done _ s _ _ hh hD hU hst fun s' mv => ?_)
    refine seg_again rfl ?_
    show Seg _ _ _ _ 0 s₀ _ (leafOf (.ok .next)) _ s'
    exact seg_leaf (.ok .next) (hk s₀ s' hex (hmv.thenw (mw_lift mv)))
  | cons x xs ih =>
    intro seen s₀ s m hpre hlen hst sa h1 h2 hrs h3 h4 h5 h6 hav hex hmv
    have hrw : rm ∉ wr₀ := fun h => h2 (I.sub _ h)
    refine seg_forLoop (I.item _ x xs s _ _ hh hD hU hst fun t s₁ hst₁ mv₁ => ?_)
    have own₁ : ∀ b o, s.heap.get? b = some o → ¬ own₀ s b → ¬ own₀ s₁ b := fun b o e h h' => (mv₁.own b h').elim h fun z => by rw [z] at e; cases e
    obtain ⟨oL, eL⟩ := ns_live sa.ns
    obtain ⟨od, ed⟩ := map_live sa.map
    obtain ⟨or, er⟩ := dict_live sa.res
    have sa₁ : SelAt prog w L d rm fv seen m s₁.heap := sa.keep (fun o e => mv₁.heap L o hLw h6 e) (fun o e => mv₁.heap d o hdw h5 e) (fun o e => mv₁.heap rm o hrw h3 e)
    have h3₁ := own₁ rm _ er h3
    have h5₁ := own₁ d _ ed h5
    have h6₁ := own₁ L _ eL h6
    have hmv₁ := hmv.trans (mv_lift mv₁ sa.ns hLw h6)
    have hav₁ : (∀ b ∈ ex, (∃ o, s₁.heap.get? b = some o) ∧ ¬ own₀ s₁ b) := fun b hb => let ⟨⟨o, e⟩, ho⟩ := hav b hb; ⟨mv₁.alive b o e, own₁ b o e ho⟩
    refine wpAny_storeName_local rfl sa₁.ns fun h₂ hn₂ hs₂ => ?_
    replace hn₂ : h₂.Ns L (fun y => if y = Str.ofString "elem" then some (.str x t) else m y) := hn₂
    replace hs₂ : Heap.SameBut L s₁.heap h₂ := hs₂
    have up₂ : ∀ b ∈ fp₀, ∀ o, s₁.heap.get? b = some o → h₂.get? b = some o := fun b hb o e => (hs₂.2 b fun h => hLf (h ▸ hb)).trans e
    have mv₂ : Mv (L :: wr₀) gf₀ (selOwn L own₀) s₁ { s₁ with heap := h₂, toks := s₁.toks + 1 } := mv_store I hLf hst₁ sa₁.ns hn₂ hs₂ (Nat.le_succ _) (by decide)
    have hst₂ : St₀ xs { s₁ with heap := h₂, toks := s₁.toks + 1 } := I.frame xs s₁ h₂ (s₁.toks + 1) s₁.gens hst₁ (Nat.le_succ _) (fun b o hb e => (hs₂.2 b (by rcases hb with hb | hb; exact fun h => hLf (h ▸ hb); exact fun h => h6₁ (h ▸ hb))).trans e) (fun _ _ => rfl)
    have ow₂ : ∀ b, ¬ own₀ s₁ b → ¬ own₀ { s₁ with heap := h₂, toks := s₁.toks + 1 } b := fun b h h' => h (I.ownAt s₁ h₂ _ s₁.gens b (fun b o hb e => up₂ b hb o e) ⟨xs, hst₁⟩ h')
    have hmv₂ := hmv₁.trans mv₂
    have hav₂ : (∀ b ∈ ex, (∃ o, ({ s₁ with heap := h₂, toks := s₁.toks + 1 } : Shared).heap.get? b = some o) ∧ ¬ own₀ ({ s₁ with heap := h₂, toks := s₁.toks + 1 } : Shared) b) := fun b hb => let ⟨⟨o, e⟩, ho⟩ := hav₁ b hb; ⟨mv₂.alive b o e, ow₂ b ho⟩
    have sa₂ : SelAt prog w L d rm fv seen (fun y => if y = Str.ofString "elem" then some (.str x t) else m y) h₂ :=
      ⟨hn₂, (if_neg (by decide)).trans sa.pm, (if_neg (by decide)).trans sa.rmm, sa₁.map.sameBut hs₂ hdL, sa₁.res.sameBut hs₂ h1⟩
    refine seg_execs_cons (seg_If (sel_test sa₂.ns (if_pos rfl) sa₂.pm sa₂.map hds ?_))
    have mvt : ∀ {s' : Shared} {tk : Nat}, s'.toks ≤ tk → (∀ xs, St₀ xs s' → Mv (L :: wr₀) gf₀ (selOwn L own₀) s' { s' with toks := tk }) := fun {s' tk} ht xs hs' =>
      ⟨fun _ _ _ _ e => e, fun _ _ e => ⟨_, e⟩, fun b h => .inl (h.imp_right fun h => I.ownAt s' s'.heap tk s'.gens b (fun _ _ _ e => e) ⟨xs, hs'⟩ h), fun _ _ => rfl, fun h => h, rfl, rfl, ht⟩
    have stt : ∀ {s' : Shared} {tk : Nat} {xs : List Str}, s'.toks ≤ tk → St₀ xs s' → St₀ xs { s' with toks := tk } := fun {s' tk xs} ht hs' => I.frame xs s' s'.heap tk s'.gens hs' ht (fun _ _ _ e => e) fun _ _ => rfl
    have owt : ∀ {s' : Shared} {tk : Nat} {xs : List Str} {b : Addr}, St₀ xs s' → ¬ own₀ s' b → ¬ own₀ { s' with toks := tk } b := fun {s' tk xs b} hs' h h' => h (I.ownAt s' s'.heap tk s'.gens b (fun _ _ _ e => e) ⟨xs, hs'⟩ h')
    rcases hfv x with ⟨hf, hF⟩ | ⟨y, ty, hf, hF⟩
    · rw [hf]
      simp only [Option.isSome_none, Bool.false_eq_true, if_false]
      have hsel : selR F seen (x :: xs) = selR F seen xs := by rw [selR, hF]
      rw [hsel] at hpre ⊢
      refine seg_execs_nil (seg_execs_nil (seg_again rfl (ih seen s₀ _ _ hpre (by simp at hlen ⊢; omega) (stt (Nat.le_succ _) hst₂) sa₂ h1 h2 hrs (owt hst₂ (ow₂ _ h3₁)) h4 (owt hst₂ (ow₂ _ h5₁)) (owt hst₂ (ow₂ _ h6₁)) (fun b hb => ⟨(hav₂ b hb).1, owt hst₂ (hav₂ b hb).2⟩) hex (hmv₂.trans (mvt (Nat.le_succ _) _ hst₂)))))
    · rw [hf]
      simp only [Option.isSome_some, if_true]
      -- the second state: after the test
      have hst₃ : St₀ xs ({ s₁ with heap := h₂, toks := s₁.toks + 1 + 1 } : Shared) := stt (Nat.le_succ _) hst₂
      have sa₃ : SelAt prog w L d rm fv seen (fun y => if y = Str.ofString "elem" then some (.str x t) else m y) ({ s₁ with heap := h₂, toks := s₁.toks + 1 + 1 } : Shared).heap := sa₂
      have o3r : ¬ own₀ ({ s₁ with heap := h₂, toks := s₁.toks + 1 + 1 } : Shared) rm := owt hst₂ (ow₂ _ h3₁)
      have o3d : ¬ own₀ ({ s₁ with heap := h₂, toks := s₁.toks + 1 + 1 } : Shared) d := owt hst₂ (ow₂ _ h5₁)
      have o3L : ¬ own₀ ({ s₁ with heap := h₂, toks := s₁.toks + 1 + 1 } : Shared) L := owt hst₂ (ow₂ _ h6₁)
      have hmv₃ : Mv (L :: wr₀) gf₀ (selOwn L own₀) s₀ ({ s₁ with heap := h₂, toks := s₁.toks + 1 + 1 } : Shared) := hmv₂.trans (mvt (Nat.le_succ _) _ hst₂)
      have hav₃ : (∀ b ∈ ex, (∃ o, ({ s₁ with heap := h₂, toks := s₁.toks + 1 + 1 } : Shared).heap.get? b = some o) ∧ ¬ own₀ ({ s₁ with heap := h₂, toks := s₁.toks + 1 + 1 } : Shared) b) := fun b hb => ⟨(hav₂ b hb).1, owt hst₂ (hav₂ b hb).2⟩
      change Seg _ _ _ _ _ s₀ _ _ _ ({ s₁ with heap := h₂, toks := s₁.toks + 1 + 1 } : Shared)
      generalize ({ s₁ with heap := h₂, toks := s₁.toks + 1 + 1 } : Shared) = s₃ at hst₃ sa₃ o3r o3d o3L hav₃ hmv₃ ⊢
      refine seg_stmt (sel_get sa₃.ns (if_pos rfl) sa₃.pm sa₃.map hds hf fun h₄ tk₄ hn₄ hs₄ ht₄ => ⟨rfl, ?_⟩)
      have mv₄ := mv_store I hLf hst₃ sa₃.ns hn₄ hs₄ ht₄ (by decide)
      have hst₄ : St₀ xs { s₃ with heap := h₄, toks := tk₄ } := I.frame xs s₃ h₄ tk₄ s₃.gens hst₃ ht₄ (fun b o hb e => (hs₄.2 b (by rcases hb with hb | hb; exact fun h => hLf (h ▸ hb); exact fun h => o3L (h ▸ hb))).trans e) (fun _ _ => rfl)
      have ow₄ : ∀ b, ¬ own₀ s₃ b → ¬ own₀ { s₃ with heap := h₄, toks := tk₄ } b := fun b h h' => h (I.ownAt s₃ h₄ _ s₃.gens b (fun b o hb e => (hs₄.2 b fun h => hLf (h ▸ hb)).trans e) ⟨xs, hst₃⟩ h')
      have sa₄ : SelAt prog w L d rm fv seen (fun z => if z = Str.ofString "parent" then some (.str y ty) else if z = Str.ofString "elem" then some (.str x t) else m z) ({ s₃ with heap := h₄, toks := tk₄ } : Shared).heap :=
        ⟨hn₄, (if_neg (by decide)).trans sa₃.pm, (if_neg (by decide)).trans sa₃.rmm, sa₃.map.sameBut hs₄ hdL, sa₃.res.sameBut hs₄ h1⟩
      have o4r := ow₄ _ o3r
      have o4d := ow₄ _ o3d
      have o4L := ow₄ _ o3L
      have hmv₄ := hmv₃.trans mv₄
      have hav₄ : (∀ b ∈ ex, (∃ o, ({ s₃ with heap := h₄, toks := tk₄ } : Shared).heap.get? b = some o) ∧ ¬ own₀ ({ s₃ with heap := h₄, toks := tk₄ } : Shared) b) := fun b hb => let ⟨⟨o, e⟩, ho⟩ := hav₃ b hb; ⟨mv₄.alive b o e, ow₄ b ho⟩
      clear mv₄ ow₄
      change Seg _ _ _ _ _ s₀ _ _ _ ({ s₃ with heap := h₄, toks := tk₄ } : Shared)
      generalize ({ s₃ with heap := h₄, toks := tk₄ } : Shared) = s₄ at hst₄ sa₄ o4r o4d o4L hav₄ hmv₄ ⊢
      refine seg_execs_cons (seg_If (sel_notin sa₄.ns (if_pos rfl) sa₄.rmm sa₄.res.mapOf hrs ?_))
      rw [valueAt_nones]
      have hst₅ : St₀ xs { s₄ with toks := s₄.toks + 1 } := stt (Nat.le_succ _) hst₄
      have sa₅ : SelAt prog w L d rm fv seen (fun z => if z = Str.ofString "parent" then some (.str y ty) else if z = Str.ofString "elem" then some (.str x t) else m z) ({ s₄ with toks := s₄.toks + 1 } : Shared).heap := sa₄
      have o5r := owt (tk := s₄.toks + 1) hst₄ o4r
      have o5d := owt (tk := s₄.toks + 1) hst₄ o4d
      have o5L := owt (tk := s₄.toks + 1) hst₄ o4L
      have hmv₅ := hmv₄.trans (mvt (tk := s₄.toks + 1) (Nat.le_succ _) _ hst₄)
      have hav₅ : (∀ b ∈ ex, (∃ o, ({ s₄ with toks := s₄.toks + 1 } : Shared).heap.get? b = some o) ∧ ¬ own₀ ({ s₄ with toks := s₄.toks + 1 } : Shared) b) := fun b hb => ⟨(hav₄ b hb).1, owt hst₄ (hav₄ b hb).2⟩
      change if _ then Seg _ _ _ _ _ s₀ _ _ _ ({ s₄ with toks := s₄.toks + 1 } : Shared) else Seg _ _ _ _ _ s₀ _ _ _ ({ s₄ with toks := s₄.toks + 1 } : Shared)
      generalize ({ s₄ with toks := s₄.toks + 1 } : Shared) = s₅ at hst₅ sa₅ o5r o5d o5L hav₅ hex hmv₅ ⊢
      by_cases hin : y ∈ seen
      · rw [decide_eq_true hin]
        simp only [Bool.not_true, Bool.false_eq_true, if_false]
        have hsel : selR F seen (x :: xs) = selR F seen xs := by rw [selR, hF]; simp only [if_pos hin]
        rw [hsel] at hpre ⊢
        exact seg_execs_nil (seg_execs_nil (seg_execs_nil (seg_again rfl (ih seen s₀ _ _ hpre (by simp at hlen ⊢; omega) hst₅ sa₅ h1 h2 hrs o5r h4 o5d o5L hav₅ hex hmv₅))))
      · rw [decide_eq_false hin]
        simp only [Bool.not_false, if_true]
        have hsel : selR F seen (x :: xs) = y :: selR F (seen ++ [y]) xs := by rw [selR, hF]; simp only [if_neg hin]
        rw [hsel] at hpre ⊢
        refine seg_stmt (sel_set sa₅.ns (if_pos rfl) sa₅.rmm sa₅.res (by simp [nones]; simp at hlen; unfold sizeLine; omega) fun h₆ hd₆ hs₆ => ⟨rfl, ?_⟩)
        rw [stored_nones hin] at hd₆
        have mv₆ := mv_set I hst₅ sa₅.ns sa₅.rmm h1 h2 hd₆ hs₆ (Nat.le_succ s₅.toks)
        have hst₆ : St₀ xs { s₅ with heap := h₆, toks := s₅.toks + 1 } := I.frame xs s₅ h₆ _ s₅.gens hst₅ (Nat.le_succ _) (fun b o hb e => (hs₆.2 b (by rcases hb with hb | hb; exact fun h => h2 (h ▸ hb); exact fun h => o5r (h ▸ hb))).trans e) (fun _ _ => rfl)
        have ow₆ : ∀ b, ¬ own₀ s₅ b → ¬ own₀ { s₅ with heap := h₆, toks := s₅.toks + 1 } b := fun b h h' => h (I.ownAt s₅ h₆ _ s₅.gens b (fun b o hb e => (hs₆.2 b fun h => h2 (h ▸ hb)).trans e) ⟨xs, hst₅⟩ h')
        have sa₆ : SelAt prog w L d rm fv (seen ++ [y]) (fun z => if z = Str.ofString "parent" then some (.str y ty) else if z = Str.ofString "elem" then some (.str x t) else m z) ({ s₅ with heap := h₆, toks := s₅.toks + 1 } : Shared).heap :=
          ⟨sa₅.ns.sameBut hs₆ (Ne.symm h1), sa₅.pm, sa₅.rmm, sa₅.map.sameBut hs₆ h4, hd₆⟩
        have o6r := ow₆ _ o5r
        have o6d := ow₆ _ o5d
        have o6L := ow₆ _ o5L
        have hmv₆ := hmv₅.trans mv₆
        have hav₆ : (∀ b ∈ ex, (∃ o, ({ s₅ with heap := h₆, toks := s₅.toks + 1 } : Shared).heap.get? b = some o) ∧ ¬ own₀ ({ s₅ with heap := h₆, toks := s₅.toks + 1 } : Shared) b) := fun b hb => let ⟨⟨o, e⟩, ho⟩ := hav₅ b hb; ⟨mv₆.alive b o e, ow₆ b ho⟩
        clear mv₆ ow₆
        change Seg _ _ _ _ _ s₀ _ _ _ ({ s₅ with heap := h₆, toks := s₅.toks + 1 } : Shared)
        generalize ({ s₅ with heap := h₆, toks := s₅.toks + 1 } : Shared) = s₆ at hst₆ sa₆ o6r o6d o6L hav₆ hmv₆ ⊢
        refine seg_execs_cons (seg_Expr_Yield rfl rfl rfl (name_ok rfl rfl sa₆.ns (if_pos rfl) fun kap hkap => ?_))
        refine hY _ s₀ y ty s₆ kap _ xs _ hex ?_ hmv₆ sa₆ hst₆ o6L hav₆ fun s'' hres => hkap .none s'' ?_
        · obtain ⟨pre, rfl⟩ := hpre
          rw [List.reverse_append, List.reverse_cons, List.append_assoc, List.getElem?_append_right (by simp), List.length_reverse, Nat.sub_self]
          rfl
        · obtain ⟨h₇, tk₇, gn₇, rfl, ht₇, hk₇, hg₇⟩ := hres
          have kL : ∀ o, s₆.heap.get? L = some o → h₇.get? L = some o := fun o e => hk₇ L o (.inl (by simp)) e
          have kd : ∀ o, s₆.heap.get? d = some o → h₇.get? d = some o := fun o e => hk₇ d o (.inl (by simp)) e
          have kr : ∀ o, s₆.heap.get? rm = some o → h₇.get? rm = some o := fun o e => hk₇ rm o (.inr (.inl ⟨_, sa₆.ns, sa₆.rmm⟩)) e
          have ow₇ : ∀ b, ¬ own₀ s₆ b → ¬ own₀ { s₆ with heap := h₇, toks := tk₇, gens := gn₇ } b := fun b h h' => h (I.ownAt s₆ h₇ _ gn₇ b (fun b o hb e => hk₇ b o (.inl (by simp [hb])) e) ⟨xs, hst₆⟩ h')
          have hst₇ := I.frame xs s₆ h₇ tk₇ gn₇ hst₆ ht₇ (fun b o hb e => hk₇ b o (by rcases hb with hb | hb; exact .inl (by simp [hb]); exact .inr (.inr hb)) e) hg₇
          have hpre' : ∃ pre, outs = pre ++ selR F (seen ++ [y]) xs := by obtain ⟨pre, rfl⟩ := hpre; exact ⟨pre ++ [y], by simp⟩
          exact seg_execs_nil (seg_execs_nil (seg_execs_nil (seg_again rfl (ih (seen ++ [y]) _ _ _ hpre' (by simp at hlen ⊢; omega) hst₇ (sa₆.keep kL kd kr) h1 h2 hrs (ow₇ _ o6r) h4 (ow₇ _ o6d) (ow₇ _ o6L) (fun b hb => let ⟨⟨o, e⟩, ho⟩ := hav₆ b hb; ⟨⟨o, hk₇ b o (.inl (by simp [hb])) e⟩, ow₇ b ho⟩) (hEx _ _ (sa₆.ns.at' kL) sa₆.rmm) Mv.refl))))
end
end SM8
section SM9
set_option maxHeartbeats 8000000
abbrev bareA (D U : Nat) : Around := { handled := none, depth := D, frames := none, guards := none, units := U }
theorem wp_bare {α : Type} {M : Model} {A : Around} {D U : Nat} {t : Sem α} {Q : α → Shared → Prop} {E : Value → Shared → Prop} {s : Shared} (hh : A.handled = none) (hd : A.depth ≤ D) (hu : A.units ≤ U) (h : wpAny M (bareA D U) t Q E s) : wpAny M A t Q E s :=
  fun Γ p hΓ => h Γ p ⟨hΓ.1.trans hh, Nat.le_trans hΓ.2.1 hd, (fun _ e => by cases e), (fun _ e => by cases e), Nat.le_trans hΓ.2.2.2.2 hu⟩
section
variable {prog : Program} {w : World} {A : Around} {E : Value → Shared → Prop} {s : Shared}
theorem next_gen {a : Addr} {g n : Nat} {gs : GenState} {P : Nat → Shared → Shared → Prop} {Y : Protocol} {Q : Option Value → Shared → Prop} (hh : A.handled = none) (hl : s.heap.NoLimit) (hroom : A.depth < recursionLimit) (hg : s.heap.IsGen a g) (hgs : s.gens[g]? = some gs)
    (hgo : gs.Goes (model prog w) A.in1 (fun n s₀ r s₁ => r = .ok (.ret .none) ∧ P n s₀ s₁) Y n (.send .none) (s.setGen g .running))
    (hY : ∀ v s₁ gs', gs'.bare = true → Y (n - 1) (s.setGen g .running) v s₁ (fun r' s'' => match n with
        | 0 => False
        | m + 1 => gs'.Goes (model prog w) A.in1 (fun n s₀ r s₁ => r = .ok (.ret .none) ∧ P n s₀ s₁) Y m r' s'') → Q (some v) (s₁.setGen g gs'))
    (hP : ∀ s₁, P n (s.setGen g .running) s₁ → ∀ h', (∀ b o, s₁.heap.get? b = some o → h'.get? b = some o) → Q none { s₁.setGen g .finished with heap := h' }) :
    wpAny (model prog w) A (pyNext (.ref a)) Q E s := by
  revert prog w A E s a g n gs P Y Q
  intro PK prog w A E s a g n gs P Y Q
  intro hh hl hroom hg hgs hgo hY hP
  unfold pyNext
  refine wpAny_bind (wpAny_attempt (wpAny_callSpecial?_slot (name := Str.ofString "__next__") hg.typeIs slot_gen_next (wpAny_call_entry slot_gen_next hg.typeIs entry_gen_next ?_ (args_gen_next _))))
  show wpAny _ A.in1 (Builtin.Generator.genWake (.ref a) (.send .none)) _ _ s
  unfold Builtin.Generator.genWake
  refine wpAny_bind (wpAny_holding (wpAny_genNumber hg (wpAny_bind (wpAny_genState hgs ?_))))
  cases gs with
  | running => exact hgo.elim
  | finished => exact hgo.elim
  | _ =>
    refine wpAny_bind (wpAny_roomToWake hl hroom ?_)
    show wpAny _ A.in1 (.resume g (.send .none) [] _) _ _ s
    refine wpAny_resumeQ hgs hgo (fun x s₁ hx => ?_) (fun v s₁ gs' hb hv => wpAny_pure ⟨v, rfl, wpAny_pure (hY v s₁ gs' hb hv)⟩)
    obtain ⟨rfl, hp⟩ := hx
    show wpAny _ A.in1 (newExc (.type "StopIteration") [] >>= _) _ _ _
    refine wpAny_bind ?_
    simp only [newExc, newTuple]
    refine wpAny_bind (wpAny_newObj_type ?_ (by size_fits))
    refine wpAny_bind (m := firstArgMember _ _) (wpAny_of_eq (a := Value.none) (by first | rfl | (simp only [firstArgMember]; rfl)) ?_)
    refine wpAny_newObj_type ?_ (by size_fits)
    simp only [raiseNew]
    refine wpAny_bind (wpAny_bind (wpAny_handled ?_))
    rw [show A.in1.handled = none from hh]
    refine wpAny_throw ?_
    refine wpAny_bind (wpAny_isInstance (T := "StopIteration") (b := true) ⟨_, Heap.get?_push_size _ rfl, rfl⟩ isSubtype_stop ?_)
    exact wpAny_pure (hP s₁ hp _ fun b o hb => Heap.get?_push_of_some _ (Heap.get?_push_of_some _ hb))
end
structure Owner (a : Addr) (g : Nat) (fp wr : List Addr) (gf : List Nat) (own : Shared → Addr → Prop) (Al : Shared → Prop) : Prop where
  sub : ∀ b ∈ wr, b ∈ fp
  gin : g ∉ gf
  aw : a ∉ wr
  cw : cStatics ∉ wr
  frame : ∀ (s : Shared) h' tk gn, Al s → (∀ b o, b ∈ fp ∨ own s b → s.heap.get? b = some o → h'.get? b = some o) → s.toks ≤ tk → (∀ k ∈ gf, gn[k]? = s.gens[k]?) → Al { s with heap := h', toks := tk, gens := gn }
  ownAt : ∀ (s : Shared) h' tk gn b, (∀ b o, b ∈ fp → s.heap.get? b = some o → h'.get? b = some o) → Al s → own { s with heap := h', toks := tk, gens := gn } b → own s b
  fwd : ∀ (s : Shared) h' tk gn b, (∀ b o, b ∈ fp → s.heap.get? b = some o → h'.get? b = some o) → Al s → own s b → own { s with heap := h', toks := tk, gens := gn } b
  live : ∀ s b, Al s → own s b → ∃ o, s.heap.get? b = some o
  noA : ∀ s, Al s → ¬ own s a
  noC : ∀ s, Al s → ¬ own s cStatics
def genEnd (wr : List Addr) (gf : List Nat) (own : Shared → Addr → Prop) : GenEnd := fun n s₀ r s₁ => r = .ok (.ret .none) ∧ n = 0 ∧ Mw wr gf own s₀ s₁
def genY (fp wr : List Addr) (gf : List Nat) (own : Shared → Addr → Prop) (Al : Shared → Prop) (outs : List Str) : Protocol := fun n s₀ v s kap =>
  (∃ y t, outs.reverse[n]? = some y ∧ v = .str y t) ∧ Mv wr gf own s₀ s ∧ Al s ∧ ∀ s'', Res fp gf own s s'' → kap (.send .none) s''
def genSt (prog : Program) (w : World) (D U : Nat) (a : Addr) (g : Nat) (fp wr : List Addr) (gf : List Nat) (own : Shared → Addr → Prop) (Al : Shared → Prop) (outs xs : List Str) (s : Shared) : Prop :=
  s.heap.IsGen a g ∧ s.heap.NoLimit ∧ Al s ∧ (∃ pre, outs = pre ++ xs) ∧ ∃ gs, s.gens[g]? = some gs ∧ gs.bare = true ∧
    ∀ s'', Res fp gf own s s'' → gs.Goes (model prog w) (bareA D U).in1 (genEnd wr gf own) (genY fp wr gf own Al outs) xs.length (.send .none) s''
theorem setGen_bare {s : Shared} {g : Nat} {x : GenState} (hx : x.bare = true) (h : ∀ y ∈ s.gens, y.bare = true) : ∀ y ∈ (s.setGen g x).gens, y.bare = true := by
  intro y hy
  obtain ⟨i, hi, rfl⟩ := Array.mem_iff_getElem.mp hy
  by_cases e : i = g
  · subst e
    have : (s.setGen i x).gens[i]? = some x := setGen_self (gs := s.gens[i]'(by simpa [Shared.setGen] using hi)) (Array.getElem?_eq_getElem _)
    rw [Array.getElem?_eq_getElem hi] at this
    injection this with this
    rw [this]; exact hx
  · have h1 := (GenOnly.setGen s g x).2 i e
    rw [Array.getElem?_eq_getElem hi] at h1
    obtain ⟨hi', e'⟩ := Array.getElem?_eq_some_iff.mp h1.symm
    exact e' ▸ h _ (Array.getElem_mem hi')
theorem genIt {prog : Program} {w : World} {D U : Nat} {a : Addr} {g : Nat} {fp wr : List Addr} {gf : List Nat} {own : Shared → Addr → Prop} {Al : Shared → Prop} {outs : List Str} (hD : D < recursionLimit) (O : Owner a g fp wr gf own Al) :
    It prog w D U a (a :: cStatics :: fp) wr (g :: gf) own (genSt prog w D U a g fp wr gf own Al outs) where
  sub := fun b hb => List.mem_cons_of_mem _ (List.mem_cons_of_mem _ (O.sub b hb))
  ownAt := fun s h' tk gn b hk hs h => let ⟨_, hs⟩ := hs; O.ownAt s h' tk gn b (fun b o hb e => hk b o (List.mem_cons_of_mem _ (List.mem_cons_of_mem _ hb)) e) hs.2.2.1 h
  ownFwd := fun s h' tk gn b hk hs h => let ⟨_, hs⟩ := hs; O.fwd s h' tk gn b (fun b o hb e => hk b o (List.mem_cons_of_mem _ (List.mem_cons_of_mem _ hb)) e) hs.2.2.1 h
  ownLive := fun xs s b hs h => O.live s b hs.2.2.1 h
  frame := fun xs s h' tk gn st ht hk hg => by
    obtain ⟨h1, ⟨mc, h2, h3⟩, h4, h5, gs, h6, h7, h8⟩ := st
    have kf : ∀ b o, b ∈ fp ∨ own s b → s.heap.get? b = some o → h'.get? b = some o := fun b o hb e => hk b o (hb.imp_left fun h => List.mem_cons_of_mem _ (List.mem_cons_of_mem _ h)) e
    refine ⟨let ⟨o, nm, qn, ho, r⟩ := h1; ⟨o, nm, qn, hk a o (.inl (by simp)) ho, r⟩, ⟨mc, h2.at' fun o e => hk _ o (.inl (by simp)) e, h3⟩, O.frame s h' tk gn h4 kf ht fun k hk => hg k (List.mem_cons_of_mem _ hk), h5, gs, (hg g (by simp)).trans h6, h7, fun s'' hr => h8 s'' ?_⟩
    obtain ⟨h'', tk'', gn'', rfl, ht', hk', hg'⟩ := hr
    refine ⟨h'', tk'', gn'', rfl, Nat.le_trans ht ht', fun b o hb e => hk' b o ?_ (kf b o hb e), fun k hk => (hg' k hk).trans (hg k (List.mem_cons_of_mem _ hk))⟩
    exact hb.imp_right fun h => O.fwd s h' tk gn b (fun b o hb e => kf b o (.inl hb) e) h4 h
  item := fun A x xs s Q E hh hd hu st hQ => by
    obtain ⟨h1, h2, h4, ⟨pre, hpre⟩, gs, h6, h7, h8⟩ := st
    have noA := O.noA s h4
    have noC := O.noC s h4
    have res : Res fp gf own s (s.setGen g .running) := ⟨s.heap, s.toks, _, rfl, Nat.le_refl _, fun _ _ _ e => e, fun k hk => (GenOnly.setGen s g .running).2 k fun h => O.gin (h ▸ hk)⟩
    refine wp_bare hh hd hu (next_gen (P := fun n s₀ s₁ => n = 0 ∧ Mw wr gf own s₀ s₁) rfl h2 hD h1 h6 (h8 _ res) (fun v s₁ gs' hb hy => ?_) fun s₁ hp => absurd hp.1 (by simp))
    obtain ⟨⟨y, t, hy1, rfl⟩, mv, al, hk⟩ := hy
    have hyx : y = x := by
      rw [hpre, List.reverse_append, List.reverse_cons, List.append_assoc, List.getElem?_append_right (by simp)] at hy1
      simp at hy1
      exact hy1.symm
    subst hyx
    have run : (s.setGen g .running).gens[g]? = some .running := setGen_self h6
    have run₁ : s₁.gens[g]? = some .running := (mv.gens g O.gin).trans run
    have o₀ : ∀ b, own (s.setGen g .running) b → own s b := fun b h => O.ownAt s s.heap s.toks _ b (fun _ _ _ e => e) h4 h
    have o₁ : ∀ b, own (s₁.setGen g gs') b → own s₁ b := fun b h => O.ownAt s₁ s₁.heap s₁.toks _ b (fun _ _ _ e => e) al h
    have o₁' : ∀ b, own s₁ b → own (s₁.setGen g gs') b := fun b h => O.fwd s₁ s₁.heap s₁.toks _ b (fun _ _ _ e => e) al h
    have mv' : Mv wr (g :: gf) own s (s₁.setGen g gs') :=
      ⟨fun b o hb ho e => mv.heap b o hb (fun h => ho (o₀ b h)) e, mv.alive, fun b h => (mv.own b (o₁ b h)).imp_left (o₀ b), fun k hk => by
        have hne : k ≠ g := fun h => hk (h ▸ List.mem_cons_self ..)
        exact ((GenOnly.setGen s₁ g gs').2 k hne).trans ((mv.gens k fun h => hk (List.mem_cons_of_mem _ h)).trans ((GenOnly.setGen s g .running).2 k hne)),
        fun h => setGen_bare hb (mv.bare (setGen_bare rfl h)), mv.drawn, mv.os, mv.toks⟩
    refine hQ t _ ⟨?_, ?_, ?_, ⟨pre ++ [y], by simp [hpre]⟩, gs', setGen_self run₁, hb, fun s'' hr => hk s'' ?_⟩ mv'
    · obtain ⟨o, nm, qn, ho, r⟩ := h1
      exact ⟨o, nm, qn, mv'.heap a o O.aw noA ho, r⟩
    · obtain ⟨mc, hn, hnn⟩ := h2
      exact ⟨mc, hn.at' fun o e => mv'.heap _ o O.cw noC e, hnn⟩
    · exact O.frame s₁ s₁.heap s₁.toks _ al (fun _ _ _ e => e) (Nat.le_refl _) fun k hk => (GenOnly.setGen s₁ g gs').2 k fun h => O.gin (h ▸ hk)
    · obtain ⟨h'', tk'', gn'', rfl, ht', hk', hg'⟩ := hr
      exact ⟨h'', tk'', gn'', rfl, ht', fun b o hb e => hk' b o (hb.imp_right (o₁' b)) e, fun k hk => (hg' k hk).trans ((GenOnly.setGen s₁ g gs').2 k fun h => O.gin (h ▸ hk))⟩
  done := fun A s Q E hh hd hu st hQ => by
    obtain ⟨h1, h2, h4, ⟨pre, hpre⟩, gs, h6, h7, h8⟩ := st
    have res : Res fp gf own s (s.setGen g .running) := ⟨s.heap, s.toks, _, rfl, Nat.le_refl _, fun _ _ _ e => e, fun k hk => (GenOnly.setGen s g .running).2 k fun h => O.gin (h ▸ hk)⟩
    refine wp_bare hh hd hu (next_gen (P := fun n s₀ s₁ => n = 0 ∧ Mw wr gf own s₀ s₁) rfl h2 hD h1 h6 (h8 _ res) (fun v s₁ gs' hb hy => ?_) fun s₁ hp h' hk' => ?_)
    · exact (hy.2.2.2 s₁ ⟨s₁.heap, s₁.toks, s₁.gens, rfl, Nat.le_refl _, fun _ _ _ e => e, fun _ _ => rfl⟩).elim
    · have mv := hp.2
      have o₀ : ∀ b, own (s.setGen g .running) b → own s b := fun b h => O.ownAt s s.heap s.toks _ b (fun _ _ _ e => e) h4 h
      exact hQ _ ⟨fun b o hb ho e => hk' b _ (mv.heap b o hb (fun h => ho (o₀ b h)) e), fun k hk => by
        have hne : k ≠ g := fun h => hk (h ▸ List.mem_cons_self ..)
        exact ((GenOnly.setGen s₁ g .finished).2 k hne).trans ((mv.gens k fun h => hk (List.mem_cons_of_mem _ h)).trans ((GenOnly.setGen s g .running).2 k hne)),
        fun h => setGen_bare rfl (mv.bare (setGen_bare rfl h)), mv.drawn, mv.os, mv.toks⟩
  self := fun A xs s Q E st hQ => wpAny_pyIter_gen st.1 hQ
end SM9
section SM10
open PySem PySem.W PySem.W.X PyProof.Rows PySem.Spec PySem.Calls
set_option maxHeartbeats 0
theorem mem_keep {h h' : Heap} {news : List (Addr × Obj)} (D : Mem h h' [] news) : ∀ b o, h.get? b = some o → h'.get? b = some o := fun b o e => D.keep b o e (by simp [away])
theorem code_bare {prog : Program} {w : World} {A : Around} {s : Shared} {K : Frag} {R : Result → Shared → Prop} {name qual : Str} {params : Arguments} {body : List Stmt} {scope : Scope} {dV kV doc pm cdv ct oc : Value} {an od : Option Addr} {osl : Array (Option Value)} {f : Addr} {args : Args} {binds : List (Str × Value)}
    (X : K.In s.heap) (hlim : s.heap.NoLimit) (ho : K.lookup f = some ⟨oc, od, .func (fnOf name qual params body scope dV kV doc pm an cdv ct), osl⟩) (hcd : codeIn K cdv qual = true) (hroom : A.depth < recursionLimit)
    (hbind : BindsTo s (fnOf name qual params body scope dV kV doc pm an cdv ct) args binds) (hloc : ∀ y ∈ binds, scope.names.lookup y.1 = some .local)
    (h : ∀ L' h₁, (∀ b o, s.heap.get? b = some o → b ≠ L') → h₁.Ns L' (fun y => binds.reverse.lookup y) → (∀ b o, s.heap.get? b = some o → h₁.get? b = some o) →
      wpAny (model prog w) (A.deeper (envOf qual scope L' f cdv)) (execs body (envOf qual scope L' f cdv)) (fun fl s' => R (.ok (.ret (match fl with | .ret v => v | _ => .none))) s')
        (fun e s' => wpAny (model prog w) (A.deeper (envOf qual scope L' f cdv)) (leaving (envOf qual scope L' f cdv) e) (fun _ s'' => R (.error e) s'') (fun e' s'' => R (.error e') s'') s')
        { s with heap := h₁, toks := s.toks + binds.length })
    (hco : scope.isCoroutine = false) (hgen : scope.isGenerator = false) (hk : scope.kind = .function) (hcell : ∀ x ∈ scope.names, x.2 ≠ .cell) : codeAny (model prog w) A (.call (.ref f) args) R s :=
  codeAny_call_def (fd := fnOf name qual params body scope dV kV doc pm an cdv ct) (body := body) (binds := binds) hroom (X _ _ ho) rfl hlim (codeRec_of X hcd) rfl hbind hcell hloc (fun h₁ hns hk₁ => h _ h₁ (fun _ _ e => Nat.ne_of_lt (Heap.lt_size e)) hns hk₁) hco hgen hk
theorem fill_x (w : World) (h : Heap) (_ : (hd.heap_1 w.params).In h) : (fun (_ : W.OpenLaw) (_ : Params → Frag) => True) Challenge.rw_wv0033_01 hd.heap_1 := by k_fill; trivial
theorem gpm {p : Program} {w : World} {gd : Option (List Code)} {fr : Option (List Env)} {h : Heap} {g : Array GenState} {dr : Drawn} {t : Nat} {os : OsState} (X : (hd.heap_1 w.params).In h) (hlim : h.NoLimit) {c dd d : Addr} {t₁ t₂ : Tok} (hc : h.get? c = some { cls := .ref 228, dict := some dd }) (hdd : h.get? dd = some { cls := .type "dict", data := .dict #[⟨PyData.keyHash w.params (Str.ofString "root"), .str (Str.ofString "root") t₁, .none⟩, ⟨PyData.keyHash w.params (Str.ofString "parent_map"), .str (Str.ofString "parent_map") t₂, .ref d⟩] 2 }) {Q E : Value → Shared → Prop}
    (hQ : ∀ h' tk, (∀ b o, h.get? b = some o → h'.get? b = some o) → t ≤ tk → Q (.ref d) ⟨h', g, dr, tk, os⟩) :
    wpAny (model p w) { handled := none, depth := 370, frames := fr, guards := gd, units := 600 } (call (.ref 204) [.ref c]) Q E ⟨h, g, dr, t, os⟩ := by
  have hfill : (fun (_ : W.OpenLaw) (_ : Params → Frag) => True) Challenge.rw_wv0033_01 hd.heap_1 := by (k_fill; trivial)
  clear hfill
  refine wpAny_call ?_
  refine' code_bare (K := hd.heap_1 w.params) X hlim ?ho ?hcd ?room ?bind ?loc ?_ ?c2 ?c3 ?c4 ?c5
  case ho => k_is
  case hcd => k_is
  case room => exact (show 370 < recursionLimit by decide)
  case bind => exact BindsTo.of_eq rfl
  case loc => exact locs rfl
  case c2 => exact rfl
  case c3 => exact rfl
  case c4 => exact rfl
  case c5 => decide
  intro L' h₁ hne hn hk
  refine wpAny_execs_cons (wpAny_Assign_Name (Attribute_Name_ (name_ok (x := "context") rfl rfl hn rfl ?_) rfl) rfl)
  have I : InstAt h₁ c { cls := .ref 228, dict := some dd } 228 (some { cls := .type "dict", data := .dict #[⟨PyData.keyHash w.params (Str.ofString "root"), .str (Str.ofString "root") t₁, .none⟩, ⟨PyData.keyHash w.params (Str.ofString "parent_map"), .str (Str.ofString "parent_map") t₂, .ref d⟩] 2 }) := ⟨hk _ _ hc, rfl, rfl, hk _ _ hdd⟩
  refine' get_value (K := hd.heap_1 w.params) (v := .ref d) (X.keeps hk) I ?g1 (findObj_own ?g2 ?g3 ?g4 ?g5) ?g6 ?_
  case g1 => k_is
  case g2 => k_is
  case g3 => k_is
  case g4 => k_is
  case g5 => rfl
  case g6 => rfl
  refine wpAny_storeName_local (m := fun y => List.lookup y [(Str.ofString "context", .ref c)]) rfl hn fun h₂ hn₂ hs₂ => ?_
  replace hs₂ : Heap.SameBut L' h₁ h₂ := hs₂
  have hk2 : ∀ b o, h.get? b = some o → h₂.get? b = some o := fun b o e => (hs₂.2 b (hne b o e)).trans (hk b o e)
  refine wpAny_execs_cons (wpAny_If (wpAny_isTrue_Compare1 (name_ok (x := "parent_map") rfl rfl hn₂ (if_pos rfl) ?_)))
  refine wpAny_Constant_none ?_
  refine is_none_ne (fun e => nomatch e) (wpAny_truthy_bool ?_)
  rw [if_neg (by decide)]
  refine wpAny_execs_nil (wpAny_execs_cons (wpAny_Return_some (name_ok (x := "parent_map") rfl rfl hn₂ (if_pos rfl) ?_)))
  exact hQ _ _ hk2 (by omega)
end SM10
section SM11
set_option maxHeartbeats 8000000
theorem itList {prog : Program} {w : World} {D U : Nat} {l it : Addr} (hne : l ≠ it) (ps : List (Str × Tok)) :
    It prog w D U it [it, l] [it] [] (fun _ _ => False) (fun xs s => ∃ i, s.heap.IsListIter it l i ∧ s.heap.IsList l (strValues ps).toArray ∧ xs = (ps.drop i).map (·.1)) where
  sub := fun b hb => by simp at hb; simp [hb]
  ownAt := fun _ _ _ _ _ _ _ h => h
  ownFwd := fun _ _ _ _ _ _ _ h => h
  ownLive := fun _ _ _ _ h => h.elim
  frame := fun xs s h' tk gn st _ hk _ => let ⟨i, h1, h2, h3⟩ := st; ⟨i, h1.at fun o e => hk it o (.inl (by simp)) e, h2.at fun o e => hk l o (.inl (by simp)) e, h3⟩
  item := fun A x xs s Q E hh _ _ st hQ => by
    obtain ⟨i, h1, h2, h3⟩ := st
    have hx : ∃ t, ps[i]? = some (x, t) ∧ xs = (ps.drop (i + 1)).map (·.1) := by
      cases e : ps[i]? with
      | none =>
        rw [List.drop_of_length_le (by simpa using e)] at h3
        cases h3
      | some p =>
        obtain ⟨hi, rfl⟩ := List.getElem?_eq_some_iff.mp e
        rw [List.drop_eq_getElem_cons hi, List.map_cons] at h3
        injection h3 with h3 h4
        exact ⟨ps[i].2, by rw [h3], h4⟩
    obtain ⟨t, hx, rfl⟩ := hx
    refine wpAny_pyNext_list_item h1 h2 (x := .str x t) (by simp [strValues, hx]) fun h' hit hs => ?_
    obtain ⟨o, ho, _⟩ := id hit
    refine hQ t _ ⟨i + 1, hit, h2.at fun o e => (hs.2 l hne).trans e, rfl⟩ (Mv.at_ (tk := s.toks) (.inl (List.mem_cons_self ..)) hs ⟨o, ho⟩ (fun b h => h) (Nat.le_refl _))
  done := fun A s Q E hh _ _ st hQ => by
    obtain ⟨i, h1, h2, h3⟩ := st
    refine wpAny_pyNext_list_end hh h1 h2 ?_ fun h' hs => ?_
    · have : ps.length ≤ i := by
        have := congrArg List.length h3
        simp at this
        omega
      simp [strValues, this]
    · exact hQ _ ⟨fun b o hb _ e => hs b o (fun h => hb (by simp [h])) e, fun _ _ => rfl, fun h => h, rfl, rfl, Nat.le_refl _⟩
  self := fun A xs s Q E st hQ => let ⟨_, h1, _⟩ := st; wpAny_pyIter_listiter h1 hQ
structure IsCtx (w : World) (h : Heap) (c dd d : Addr) (t₁ t₂ : Tok) : Prop where
  obj : h.get? c = some { cls := .ref 228, dict := some dd }
  dict : h.get? dd = some { cls := .type "dict", data := .dict #[⟨PyData.keyHash w.params (Str.ofString "root"), .str (Str.ofString "root") t₁, .none⟩, ⟨PyData.keyHash w.params (Str.ofString "parent_map"), .str (Str.ofString "parent_map") t₂, .ref d⟩] 2 }
theorem gpm_stmt (w : World) {mean : ExcName → Option Value} {mg mb : Str → Option Value} {q : Str} {L S : Addr} {cdv : Value} {h₀ : Heap} {s : Shared} {m : Str → Option Value} {c dd d : Addr} {t₁ t₂ : Tok} {p1 p2 p3 p4 p5 : Pos} {E : Value → Shared → Prop} {Q : Flow → Shared → Prop}
    (F : Fr h₀ L s.heap m) (X : (hd.heap_1 w.params).In h₀) (T : Top topProg looseG mean mg mb h₀) (h1 : m (Str.ofString "context") = some (.ref c)) (hc : IsCtx w s.heap c dd d t₁ t₂)
    (hQ : ∀ h' tk, h'.Ns L (fun y => if y = Str.ofString "parent_map" then some (.ref d) else m y) → (∀ b o, b ≠ L → s.heap.get? b = some o → h'.get? b = some o) → s.toks ≤ tk → Q .next { s with heap := h', toks := tk }) :
    wpAny (model Challenge.pw_wv0033_01 w) (bareA 360 500) (exec (.Assign [nm "parent_map" p1] (.Call (nm "get_parent_map" p2) [nm "context" p3] [] p4) p5) (envOf q selScope L S cdv)) Q E s := by
  have hfill : (fun (_ : W.OpenLaw) (_ : Params → Frag) => True) Challenge.rw_wv0033_01 hd.heap_1 := by (k_fill; trivial)
  clear hfill
  have N : News h₀ L s.heap [] := News.nil
  unfold bareA
  k_steps
  refine name_ok (x := "context") rfl rfl F.ns h1 ?_
  k_steps
  refine wp_le (A' := { handled := none, depth := 370, frames := none, guards := none, units := 600 }) rfl (by decide) rfl rfl (by decide) (gpm (h := s.heap) (g := s.gens) (dr := s.drawn) (t := s.toks) (os := s.os) (X.keeps F.keep) (T.nolimit.keeps F.keep) hc.obj hc.dict fun h' tk hk ht => ?_)
  refine wpAny_storeName_local rfl (F.ns.keeps hk) fun h'' hn hs => hQ h'' (tk + 1) hn (fun b o hb e => (hs.2 b hb).trans (hk b o e)) (Nat.le_succ_of_le ht)
end SM11
section SM12
set_option maxHeartbeats 8000000
local macro_rules | `(tactic| walk_at "PAD0") => `(tactic| skip)
abbrev selFun (P : Nat → Pos) (kz : Nat) : List Stmt :=
  [.Assign [nm "parent_map" (P 0)] (.Call (nm "get_parent_map" (P 1)) [nm "context" (P 2)] [] (P 3)) (P 4), .Assign [nm "result_map" (P 5)] (.Dict [] [] (P 6)) (P 7),
   .For (nm "elem" (P 8)) (nm "result" (P 9)) (selBody P kz) [] (P 10)]
theorem sel_start {w : World} {mean : ExcName → Option Value} {mg mb : Str → Option Value} {q : Str} {L S : Addr} {cdv : Value} {h₀ : Heap} {s s₀ : Shared} {m : Str → Option Value} {c dd d : Addr} {t₁ t₂ : Tok} {sv : Value} {fv : Str → Option Value}
    {D U n : Nat} (hD : D + 5 ≤ 360) (hU : U + 50 ≤ 500) {R : GenEnd} {Y : Protocol}
    {P : Nat → Pos} {kz : Nat}
    (F : Fr h₀ L s.heap m) (X : (hd.heap_1 w.params).In h₀) (T : Top topProg looseG mean mg mb h₀) (h1 : m (Str.ofString "context") = some (.ref c)) (h2 : m (Str.ofString "result") = some sv) (hc : IsCtx w s.heap c dd d t₁ t₂) (hm : s.heap.MapOf (PySem.strKind Challenge.pw_wv0033_01 w) d fv) (hdL : d ≠ L)
    (h : ∀ h₂ tk m₂ rm, SelAt Challenge.pw_wv0033_01 w L d rm fv [] m₂ h₂ → s.heap.get? rm = none → rm + 1 = h₂.objs.size → (∀ b o, b ≠ L → s.heap.get? b = some o → h₂.get? b = some o) → s.toks ≤ tk →
      ∀ E, wpAny (model Challenge.pw_wv0033_01 w) ((bareA D U).in1.over (.func (selFun P kz) (envOf q selScope L S cdv)) []) (pyIter sv)
        (fun it s₃ => ∀ (k : Result → Sem Fin) (lv : List Value) p, 
          (∀ s₀ s₄, R 0 s₀ (.ok (.ret .none)) s₄ → Seg (model Challenge.pw_wv0033_01 w) (bareA D U).in1 R Y 0 s₀ (.func (selFun P kz) (envOf q selScope L S cdv)) (k (.ok .next)) [] s₄) →
          Seg (model Challenge.pw_wv0033_01 w) (bareA D U).in1 R Y n s₀ (.forLoop (nm "elem" (P 8)) it (selBody P kz) [] (envOf q selScope L S cdv)) ((model Challenge.pw_wv0033_01 w).den (.forLoop (nm "elem" (P 8)) it (selBody P kz) [] (envOf q selScope L S cdv)))
            [.ret k none false lv (.func (selFun P kz) (envOf q selScope L S cdv)) p []] s₃) E { s with heap := h₂, toks := tk }) :
    Seg (model Challenge.pw_wv0033_01 w) (bareA D U).in1 R Y n s₀ (.func (selFun P kz) (envOf q selScope L S cdv))
      ((model Challenge.pw_wv0033_01 w).den (.func (selFun P kz) (envOf q selScope L S cdv))) [] s := by
  revert w mean mg mb q L S cdv h₀ s s₀ m c dd d t₁ t₂ sv fv D U n R Y P kz
  intro PK w mean mg mb q L S cdv h₀ s s₀ m c dd d t₁ t₂ sv fv D U n
  intro hD hU
  intro PK R Y P kz
  intro F X T h1 h2 hc hm hdL h
  have hd1 : ((bareA D U).in1.over (.func (selFun P kz) (envOf q selScope L S cdv)) []).depth ≤ 360 := by
    show D + 0 + Code.weight _ ≤ 360
    have : Code.weight (.func (selFun P kz) (envOf q selScope L S cdv)) ≤ 5 := Nat.le_of_ble_eq_true rfl
    omega
  have hu1 : ((bareA D U).in1.over (.func (selFun P kz) (envOf q selScope L S cdv)) []).units ≤ 500 := by
    show U + 1 + 0 + Code.cUnits _ ≤ 500
    have : Code.cUnits (.func (selFun P kz) (envOf q selScope L S cdv)) ≤ 40 := Nat.le_of_ble_eq_true rfl
    omega
  refine seg_func ?_
  refine seg_stmt (wp_bare rfl hd1 hu1 (gpm_stmt w F X T h1 hc fun h' tk hn hk ht => ⟨rfl, ?_⟩))
  refine seg_stmt (wpAny_Assign_Name (wpAny_Dict_empty (wpAny_storeName_local rfl (hn.push _) fun h'' hn' hs' => ⟨rfl, ?_⟩)))
  replace hs' : Heap.SameBut L (h'.push { cls := .type "dict", data := .dict #[] }) h'' := hs'
  have hLs : L < h'.objs.size := hn.lt
  have hrl : h'.objs.size ≠ L := Nat.ne_of_gt hLs
  have hrn : s.heap.get? h'.objs.size = none := by
    cases e : s.heap.get? h'.objs.size with
    | none => rfl
    | some o =>
      have := Heap.lt_size (hk _ o hrl e)
      exact absurd this (Nat.lt_irrefl _)
  have k2 : ∀ b o, b ≠ L → s.heap.get? b = some o → h''.get? b = some o := fun b o hb e => (hs'.2 b hb).trans (Heap.get?_push_of_some _ (hk b o hb e))
  have sa : SelAt Challenge.pw_wv0033_01 w L d h'.objs.size fv [] (fun y => if y = Str.ofString "result_map" then some (.ref h'.objs.size) else if y = Str.ofString "parent_map" then some (.ref d) else m y) h'' :=
    ⟨hn', (if_neg (by decide)).trans (if_pos rfl), if_pos rfl, map_at hm fun o e => k2 d o hdL e, (Heap.DictOf.new (knd := PySem.strKind Challenge.pw_wv0033_01 w) h').sameBut hs' hrl⟩
  refine seg_execs_cons (seg_For (fun _ => rfl) (name_ok rfl rfl hn' ((if_neg (by decide)).trans ((if_neg (by decide)).trans h2)) ?_))
  refine wpAny_mono (h h'' (tk + 1) _ h'.objs.size sa hrn (by rw [hs'.1, Heap.size_push]) k2 (Nat.le_succ_of_le ht) _) (fun it s₃ hit => fun p => ?_) fun _ _ e => e
  refine hit _ _ p fun s₀ s₄ hR => ?_
  exact seg_execs_nil (env := envOf q selScope L S cdv) (seg_end (.ok (.ret .none)) hR)
end SM12
section SM13
set_option maxHeartbeats 8000000
local macro_rules | `(tactic| walk_at "PAD0") => `(tactic| skip)
def ownL (L : Addr) (s : Shared) (b : Addr) : Prop := ∃ m rm, s.heap.Ns L m ∧ m (Str.ofString "result_map") = some (.ref rm) ∧ (b = rm ∨ b = rm + 1)
def alL (L a : Addr) (s : Shared) : Prop := (∃ m, s.heap.Ns L m) ∧ ∀ b, ownL L s b → (∃ o, s.heap.get? b = some o) ∧ b ≠ a ∧ b ≠ cStatics
theorem ownL_at {L : Addr} {s : Shared} {h' : Heap} {tk : Nat} {gn : Array GenState} {b : Addr} (hk : ∀ o, s.heap.get? L = some o → h'.get? L = some o) (hs : ∃ m, s.heap.Ns L m) : ownL L { s with heap := h', toks := tk, gens := gn } b ↔ ownL L s b := by
  obtain ⟨m, hn⟩ := hs
  constructor
  · intro z1q
    obtain ⟨m', rm, hn', e, hb⟩ := z1q
    exact ⟨m, rm, hn, by rw [← e]; exact (hn.at' hk).agree hn' _, hb⟩
  · intro z2q
    obtain ⟨m', rm, hn', e, hb⟩ := z2q
    exact ⟨m', rm, hn'.at' hk, e, hb⟩
theorem ownerL {L a : Addr} {g : Nat} {fp : List Addr} (hL : L ∈ fp) (haL : a ≠ L) (hcL : cStatics ≠ L) : Owner a g fp [L] [] (ownL L) (alL L a) where
  sub := fun b hb => by simp at hb; exact hb ▸ hL
  gin := by simp
  aw := by simpa using haL
  cw := by simpa using hcL
  frame := fun s h' tk gn al hk _ _ => by
    have kL : ∀ o, s.heap.get? L = some o → h'.get? L = some o := fun o e => hk L o (.inl hL) e
    obtain ⟨⟨m, hn⟩, h2⟩ := al
    refine ⟨⟨m, hn.at' kL⟩, fun b hb => ?_⟩
    have hb' := (ownL_at kL ⟨m, hn⟩).mp hb
    obtain ⟨⟨o, e⟩, r⟩ := h2 b hb'
    exact ⟨⟨o, hk b o (.inr hb') e⟩, r⟩
  ownAt := fun s h' tk gn b hk al h => (ownL_at (fun o e => hk L o hL e) al.1).mp h
  fwd := fun s h' tk gn b hk al h => (ownL_at (fun o e => hk L o hL e) al.1).mpr h
  live := fun s b al h => (al.2 b h).1
  noA := fun s al h => (al.2 a h).2.1 rfl
  noC := fun s al h => (al.2 _ h).2.2 rfl
theorem sel_fresh_list {w : World} {mean : ExcName → Option Value} {mg mb : Str → Option Value} {q : Str} {L S : Addr} {cdv : Value} {h₀ : Heap} {s : Shared} {m : Str → Option Value} {c dd d l a : Addr} {g : Nat} {t₁ t₂ : Tok} {fv : Str → Option Value} {F : Str → Option Str} {ps : List (Str × Tok)}
    {D U : Nat} (hD : D + 5 ≤ 360) (hU : U + 50 ≤ 500)
    {P : Nat → Pos} {kz : Nat}
    (Fr' : Fr h₀ L s.heap m) (X : (hd.heap_1 w.params).In h₀) (T : Top topProg looseG mean mg mb h₀) (h1 : m (Str.ofString "context") = some (.ref c)) (h2 : m (Str.ofString "result") = some (.ref l)) (h3 : m (Str.ofString "result_map") = none) (hc : IsCtx w s.heap c dd d t₁ t₂) (hm : s.heap.MapOf (PySem.strKind Challenge.pw_wv0033_01 w) d fv)
    (hfv : ∀ x, (fv x = none ∧ F x = none) ∨ ∃ p t, fv x = some (.str p t) ∧ F x = some p) (hds : (d == sysModules) = false) (hdL : d ≠ L) (haL : a ≠ L) (hcL : cStatics ≠ L)
    (hlL : l ≠ L) (hl : s.heap.IsList l (strValues ps).toArray) (hlen : ps.length ≤ 1000) (hg : s.heap.IsGen a g) (hlim : s.heap.NoLimit)
    (hgs : s.gens[g]? = some (.fresh (.func (selFun P kz) (envOf q selScope L S cdv)))) :
    genSt Challenge.pw_wv0033_01 w D U a g (L :: d :: l :: a :: cStatics :: c :: dd :: List.range h₀.objs.size) [L] [] (ownL L) (alL L a) (selR F [] (ps.map (·.1))) (selR F [] (ps.map (·.1))) s := by
  revert w mean mg mb q L S cdv h₀ s m c dd d l a g t₁ t₂ fv F ps D U P kz
  intro PK w mean mg mb q L S cdv h₀ s m c dd d l a g t₁ t₂ fv F ps D U
  intro hD hU
  intro PK P kz
  intro Fr' X T h1 h2 h3 hc hm hfv hds hdL haL hcL hlL hl hlen hg hlim hgs
  have nown : ∀ b, ¬ ownL L s b := fun b ⟨m', rm, hn, e, _⟩ => by rw [← Fr'.ns.agree hn _, h3] at e; cases e
  refine ⟨hg, hlim, ⟨⟨m, Fr'.ns⟩, fun b h => (nown b h).elim⟩, ⟨[], rfl⟩, _, hgs, rfl, ?_⟩
  intro s'' z3q
  obtain ⟨h', tk, gn, rfl, ht, hk, -⟩ := z3q
  have kf : ∀ b ∈ (L :: d :: l :: a :: cStatics :: c :: dd :: List.range h₀.objs.size), ∀ o, s.heap.get? b = some o → h'.get? b = some o := fun b hb o e => hk b o (.inl hb) e
  have Fr'' : Fr h₀ L h' m := ⟨Fr'.ns.at' (kf L (by simp)), fun b o e => kf b (by simp [List.mem_range, Heap.lt_size e]) o (Fr'.keep b o e), Fr'.above⟩
  have hc'' : IsCtx w h' c dd d t₁ t₂ := ⟨kf c (by simp) _ hc.obj, kf dd (by simp) _ hc.dict⟩
  have hm'' := map_at hm (kf d (by simp))
  have hl'' : h'.IsList l (strValues ps).toArray := hl.at (kf l (by simp))
  have hL0 : h₀.objs.size ≤ L := Fr'.above
  have hg0 : mainGlobals < h₀.objs.size := T.g.lt
  refine ⟨rfl, sel_start (s := { s with heap := h', toks := tk, gens := gn }) hD hU Fr'' X T h1 h2 hc'' hm'' hdL fun h₂ tk₂ m₂ rm sa hrn hrs k2 ht2 E => ?_⟩
  replace hrn : h'.get? rm = none := hrn
  replace k2 : ∀ b o, b ≠ L → h'.get? b = some o → h₂.get? b = some o := k2
  have hLlt : L < h₂.objs.size := sa.ns.lt
  have hrmL : rm ≠ L := fun e => by obtain ⟨o, e'⟩ := ns_live Fr''.ns; rw [← e, hrn] at e'; cases e'
  have hrm : L < rm := Nat.lt_of_le_of_ne (Nat.le_of_lt_succ (Nat.lt_of_lt_of_le hLlt (Nat.le_of_eq hrs.symm))) (Ne.symm hrmL)
  obtain ⟨od, ed⟩ := map_live hm''
  have hdrm : d ≠ rm := fun e => by rw [e, hrn] at ed; cases ed
  have hrms : (rm == sysModules) = false := by
    have : sysModules < rm := Nat.lt_of_le_of_lt (Nat.le_trans (by decide : sysModules ≤ mainGlobals) (Nat.le_of_lt (Nat.lt_of_lt_of_le hg0 hL0))) hrm
    simpa using Nat.ne_of_gt this
  refine wpAny_pyIter_list (hl''.at fun o e => k2 l o hlL e) ?_
  intro k lv p hkk
  generalize hit : h₂.objs.size = it at hrs hLlt
  have hitL : it ≠ L := Nat.ne_of_gt hLlt
  have hnew : ∀ o, h₂.get? it ≠ some o := fun o e => absurd (Heap.lt_size e) (by rw [hit]; exact Nat.lt_irrefl _)
  have hitn : h'.get? it = none := by
    cases e : h'.get? it with
    | none => rfl
    | some o => exact (hnew o (k2 it o hitL e)).elim
  have hlit : l ≠ it := fun e => by obtain ⟨o, e', _⟩ := hl''; rw [e, hitn] at e'; cases e'
  have hdit : d ≠ it := fun e => by rw [e, hitn] at ed; cases ed
  have hrit : rm ≠ it := fun e => Nat.ne_of_lt (Nat.lt_succ_self rm) (e.trans hrs.symm)
  have push : ∀ b o, h₂.get? b = some o → (h₂.push { cls := .type "list_iterator", data := .fields #[.ref l, .int 0 0] }).get? b = some o := fun b o e => Heap.get?_push_of_some _ e
  have conv : ∀ {s₀ b}, selOwn L (fun _ _ => False) s₀ b → ownL L s₀ b := fun {s₀ b} h => by
    rcases h with ⟨m', hn, e⟩ | h
    · exact ⟨m', b, hn, e, .inl rfl⟩
    · exact h.elim
  have sa₃ : SelAt Challenge.pw_wv0033_01 w L d rm fv [] m₂ (h₂.push { cls := .type "list_iterator", data := .fields #[.ref l, .int 0 0] }) := sa.keep (push _) (push _) (push _)
  refine sel_loop (ex := []) (rm := rm) (Ex := fun s₀ => ownL L s₀ it ∨ s₀.heap.get? it = none) (itList (prog := Challenge.pw_wv0033_01) (w := w) (D := _) (U := _) hlit ps) hfv (by simp [Ne.symm hitL, Ne.symm hlL]) hdL (by simpa using hdit) hds
    (fun s m hn e => .inl ⟨m, rm, hn, e, .inr hrs.symm⟩) (fun s₀ s₁ hex mw => hkk s₀ s₁ ⟨rfl, rfl, ?_⟩) (fun n s₀ y t s₁ kap m₁ xs seen hex hy mv sa₁ st₁ _ _ hkap => ?_) rfl (Nat.le_refl _) (Nat.le_refl _) (ps.map (·.1)) [] ({ s with heap := h', toks := tk, gens := gn } : Shared) ({ s with heap := h₂.push { cls := .type "list_iterator", data := .fields #[.ref l, .int 0 0] }, toks := tk₂, gens := gn } : Shared) m₂ ⟨[], rfl⟩ (by simpa using hlen)
    ⟨0, ⟨{ cls := .type "list_iterator", data := .fields #[.ref l, .int 0 0] }, by rw [← hit]; exact Heap.get?_push_size _ rfl, rfl, rfl⟩, (hl''.at fun o e => k2 l o hlL e).at (push l), by simp⟩ sa₃ hrmL (by simp [hrit]; exact fun e => by obtain ⟨o, e', _⟩ := hl''; rw [← e, hrn] at e'; cases e') hrms id hdrm id id (by simp) (.inr hitn) ?_
  · refine ⟨fun b o hb ho e => mw.heap b o (fun h => ?_) (fun h => ho (conv h)) e, mw.gens, mw.bare, mw.drawn, mw.os, mw.toks⟩
    simp at h hb
    rcases h with h | h
    · exact hb h
    · subst h
      rcases hex with hex | hex
      · exact ho hex
      · rw [hex] at e; cases e
  · have own1 : ∀ b, ownL L s₁ b → b = rm ∨ b = it := fun b ⟨m', rm', hn, e, hb⟩ => by
      have : rm' = rm := by rw [← sa₁.ns.agree hn _, sa₁.rmm] at e; injection e with e; injection e with e; exact e.symm
      subst this
      exact hb.imp_right fun h => h.trans hrs
    refine ⟨⟨y, t, hy, rfl⟩, ⟨fun b o hb ho e => mv.heap b o (fun h => ?_) (fun h => ho (conv h)) e, mv.alive, fun b hb => ?_, mv.gens, mv.bare, mv.drawn, mv.os, mv.toks⟩, ⟨⟨m₁, sa₁.ns⟩, fun b hb => ?_⟩, fun s₄ hres => hkap s₄ ?_⟩
    · simp at h hb
      rcases h with h | h
      · exact hb h
      · subst h
        rcases hex with hex | hex
        · exact ho hex
        · rw [hex] at e; cases e
    · rcases own1 b hb with rfl | rfl
      · exact (mv.own b (.inl ⟨m₁, sa₁.ns, sa₁.rmm⟩)).imp_left conv
      · exact hex
    · obtain ⟨i, ⟨oi, ei, _⟩, _⟩ := st₁
      obtain ⟨ga, _, _, ea, _⟩ := hg
      obtain ⟨_, ⟨gc, _, _, ec, _⟩, _⟩ := hlim
      have ea' := kf a (by simp) _ ea
      have ec' := kf cStatics (by simp) _ ec
      rcases own1 b hb with rfl | rfl
      · exact ⟨dict_live sa₁.res, (fun e => by rw [← e, hrn] at ea'; cases ea'), (fun e => by rw [← e, hrn] at ec'; cases ec')⟩
      · exact ⟨⟨oi, ei⟩, (fun e => by rw [← e, hitn] at ea'; cases ea'), (fun e => by rw [← e, hitn] at ec'; cases ec')⟩
    · obtain ⟨h₅, tk₅, gn₅, rfl, ht₅, hk₅, hg₅⟩ := hres
      refine ⟨h₅, tk₅, gn₅, rfl, ht₅, fun b o hb e => hk₅ b o ?_ e, hg₅⟩
      rcases hb with hb | hb
      · simp at hb
        rcases hb with rfl | rfl | rfl | rfl
        · exact .inl (by simp)
        · exact .inl (by simp)
        · exact .inr ⟨m₁, rm, sa₁.ns, sa₁.rmm, .inr hrs.symm⟩
        · exact .inl (by simp)
      · exact .inr (conv hb)
  · refine ⟨fun b o hb _ e => push b o (k2 b o (fun h => hb (by simp [h])) e), fun b o e => ?_, fun b hb => ?_, fun _ _ => rfl, fun h => h, rfl, rfl, ht2⟩
    · by_cases hbL : b = L
      · rw [hbL]; exact ns_live sa₃.ns
      · exact ⟨o, push b o (k2 b o hbL e)⟩
    · rcases hb with ⟨m', hn, e⟩ | hb
      · have : b = rm := by rw [← sa₃.ns.agree hn _, sa₃.rmm] at e; injection e with e; injection e with e; exact e.symm
        exact .inr (this ▸ hrn)
      · exact hb.elim
end SM13
section SM14
set_option maxHeartbeats 8000000
local macro_rules | `(tactic| walk_at "PAD0") => `(tactic| skip)
def alG (L a : Addr) (own₀ : Shared → Addr → Prop) (St₀ : List Str → Shared → Prop) (s : Shared) : Prop := (∃ m, s.heap.Ns L m) ∧ (∀ b, selOwn L own₀ s b → (∃ o, s.heap.get? b = some o) ∧ b ≠ a ∧ b ≠ cStatics) ∧ ∃ ys, St₀ ys s
section
variable {prog : Program} {w : World} {D₀ U₀ : Nat} {I₀ : Addr} {fp₀ wr₀ : List Addr} {gf₀ : List Nat} {own₀ : Shared → Addr → Prop} {St₀ : List Str → Shared → Prop}
theorem selOwn_at (I : It prog w D₀ U₀ I₀ fp₀ wr₀ gf₀ own₀ St₀) {L : Addr} {s : Shared} {h' : Heap} {tk : Nat} {gn : Array GenState} {b : Addr} (hk : ∀ o, s.heap.get? L = some o → h'.get? L = some o) (hk' : ∀ b o, b ∈ fp₀ → s.heap.get? b = some o → h'.get? b = some o) (hs : ∃ m, s.heap.Ns L m) (hst : ∃ ys, St₀ ys s) : selOwn L own₀ { s with heap := h', toks := tk, gens := gn } b ↔ selOwn L own₀ s b := by
  obtain ⟨m, hn⟩ := hs
  constructor
  · rintro (⟨m', hn', e⟩ | h)
    · exact .inl ⟨m, hn, by rw [← e]; exact (hn.at' hk).agree hn' _⟩
    · exact .inr (I.ownAt s h' tk gn b hk' hst h)
  · rintro (⟨m', hn', e⟩ | h)
    · exact .inl ⟨m', hn'.at' hk, e⟩
    · exact .inr (I.ownFwd s h' tk gn b hk' hst h)
theorem ownerG (I : It prog w D₀ U₀ I₀ fp₀ wr₀ gf₀ own₀ St₀) {L a : Addr} {g : Nat} {fp : List Addr} (hL : L ∈ fp) (hf : ∀ b ∈ fp₀, b ∈ fp) (hg : g ∉ gf₀) (haL : a ≠ L) (hcL : cStatics ≠ L) (haw : a ∉ wr₀) (hcw : cStatics ∉ wr₀) : Owner a g fp (L :: wr₀) gf₀ (selOwn L own₀) (alG L a own₀ St₀) where
  sub := fun b hb => by
    rcases List.mem_cons.mp hb with rfl | hb
    · exact hL
    · exact hf b (I.sub b hb)
  gin := hg
  aw := by simp [haL, haw]
  cw := by simp [hcL, hcw]
  frame := fun s h' tk gn al hk ht hgn => by
    obtain ⟨⟨m, hn⟩, h2, ys, h3⟩ := al
    have kL : ∀ o, s.heap.get? L = some o → h'.get? L = some o := fun o e => hk L o (.inl hL) e
    have kf : ∀ b o, b ∈ fp₀ → s.heap.get? b = some o → h'.get? b = some o := fun b o hb e => hk b o (.inl (hf b hb)) e
    refine ⟨⟨m, hn.at' kL⟩, fun b hb => ?_, ys, I.frame ys s h' tk gn h3 ht (fun b o hb e => hk b o (hb.imp (hf b) .inr) e) hgn⟩
    have hb' := (selOwn_at I kL kf ⟨m, hn⟩ ⟨ys, h3⟩).mp hb
    obtain ⟨⟨o, e⟩, r⟩ := h2 b hb'
    exact ⟨⟨o, hk b o (.inr hb') e⟩, r⟩
  ownAt := fun s h' tk gn b hk al h => (selOwn_at I (fun o e => hk L o hL e) (fun b o hb e => hk b o (hf b hb) e) al.1 al.2.2).mp h
  fwd := fun s h' tk gn b hk al h => (selOwn_at I (fun o e => hk L o hL e) (fun b o hb e => hk b o (hf b hb) e) al.1 al.2.2).mpr h
  live := fun s b al h => (al.2.1 b h).1
  noA := fun s al h => (al.2.1 a h).2.1 rfl
  noC := fun s al h => (al.2.1 _ h).2.2 rfl
end
theorem sel_fresh_gen {w : World} {D₀ U₀ : Nat} {I₀ : Addr} {fp₀ wr₀ : List Addr} {gf₀ : List Nat} {own₀ : Shared → Addr → Prop} {St₀ : List Str → Shared → Prop} (I : It Challenge.pw_wv0033_01 w D₀ U₀ I₀ fp₀ wr₀ gf₀ own₀ St₀)
    {mean : ExcName → Option Value} {mg mb : Str → Option Value} {q : Str} {L S : Addr} {cdv : Value} {h₀ : Heap} {s : Shared} {m : Str → Option Value} {c dd d a : Addr} {g : Nat} {t₁ t₂ : Tok} {fv : Str → Option Value} {F : Str → Option Str} {xs : List Str}
    {D U : Nat} (hD : D + 5 ≤ 360) (hU : U + 50 ≤ 500) (hD₀ : D + 10 ≤ D₀) (hU₀ : U + 100 ≤ U₀)
    {P : Nat → Pos} {kz : Nat}
    (Fr' : Fr h₀ L s.heap m) (X : (hd.heap_1 w.params).In h₀) (T : Top topProg looseG mean mg mb h₀) (h1 : m (Str.ofString "context") = some (.ref c)) (h2 : m (Str.ofString "result") = some (.ref I₀)) (h3 : m (Str.ofString "result_map") = none) (hc : IsCtx w s.heap c dd d t₁ t₂) (hm : s.heap.MapOf (PySem.strKind Challenge.pw_wv0033_01 w) d fv)
    (hfv : ∀ x, (fv x = none ∧ F x = none) ∨ ∃ p t, fv x = some (.str p t) ∧ F x = some p) (hds : (d == sysModules) = false) (hdL : d ≠ L)
    (hLf : L ∉ fp₀) (hdw : d ∉ wr₀) (hst : St₀ xs s) (hno : ∀ b, ¬ own₀ s b) (hfl : ∀ b ∈ fp₀, b < L) (hlen : xs.length ≤ 1000) (hg : s.heap.IsGen a g) (hlim : s.heap.NoLimit)
    (hgs : s.gens[g]? = some (.fresh (.func (selFun P kz) (envOf q selScope L S cdv)))) :
    genSt Challenge.pw_wv0033_01 w D U a g (L :: d :: a :: cStatics :: c :: dd :: (fp₀ ++ List.range h₀.objs.size)) (L :: wr₀) gf₀ (selOwn L own₀) (alG L a own₀ St₀) (selR F [] xs) (selR F [] xs) s := by
  revert w D₀ U₀ I₀ fp₀ wr₀ gf₀ own₀ St₀ mean mg mb q L S cdv h₀ s m c dd d a g t₁ t₂ fv F xs D U P kz
  intro PK w D₀ U₀ I₀ fp₀ wr₀ gf₀ own₀ St₀
  intro I
  intro PK mean mg mb q L S cdv h₀ s m c dd d a g t₁ t₂ fv F xs D U
  intro hD hU hD₀ hU₀
  intro PK P kz
  intro Fr' X T h1 h2 h3 hc hm hfv hds hdL hLf hdw hst hno hfl hlen hg hlim hgs
  have nown : ∀ b, ¬ selOwn L own₀ s b := by
    rintro b (⟨m', hn, e⟩ | h)
    · rw [← Fr'.ns.agree hn _, h3] at e; cases e
    · exact hno b h
  refine ⟨hg, hlim, ⟨⟨m, Fr'.ns⟩, fun b h => (nown b h).elim, xs, hst⟩, ⟨[], rfl⟩, _, hgs, rfl, ?_⟩
  intro s'' z1q
  obtain ⟨h', tk, gn, rfl, ht, hk, hgn⟩ := z1q
  have kf : ∀ b ∈ (L :: d :: a :: cStatics :: c :: dd :: (fp₀ ++ List.range h₀.objs.size)), ∀ o, s.heap.get? b = some o → h'.get? b = some o := fun b hb o e => hk b o (.inl hb) e
  have kf₀ : ∀ b o, b ∈ fp₀ → s.heap.get? b = some o → h'.get? b = some o := fun b o hb e => kf b (by simp [hb]) o e
  have Fr'' : Fr h₀ L h' m := ⟨Fr'.ns.at' (kf L (by simp)), fun b o e => kf b (by simp [List.mem_range, Heap.lt_size e]) o (Fr'.keep b o e), Fr'.above⟩
  have hc'' : IsCtx w h' c dd d t₁ t₂ := ⟨kf c (by simp) _ hc.obj, kf dd (by simp) _ hc.dict⟩
  have hm'' := map_at hm (kf d (by simp))
  have hst'' : St₀ xs ({ s with heap := h', toks := tk, gens := gn } : Shared) := I.frame xs s h' tk gn hst ht (fun b o hb e => hb.elim (fun hb => kf₀ b o hb e) fun hb => (hno b hb).elim) hgn
  have hno'' : ∀ b, ¬ own₀ ({ s with heap := h', toks := tk, gens := gn } : Shared) b := fun b h => hno b (I.ownAt s h' tk gn b kf₀ ⟨xs, hst⟩ h)
  have hL0 : h₀.objs.size ≤ L := Fr'.above
  have hg0 : mainGlobals < h₀.objs.size := T.g.lt
  refine ⟨rfl, sel_start (s := { s with heap := h', toks := tk, gens := gn }) hD hU Fr'' X T h1 h2 hc'' hm'' hdL fun h₂ tk₂ m₂ rm sa hrn hrs k2 ht2 E => ?_⟩
  replace hrn : h'.get? rm = none := hrn
  replace k2 : ∀ b o, b ≠ L → h'.get? b = some o → h₂.get? b = some o := k2
  have hLlt : L < h₂.objs.size := sa.ns.lt
  have hrmL : rm ≠ L := fun e => by obtain ⟨o, e'⟩ := ns_live Fr''.ns; rw [← e, hrn] at e'; cases e'
  have hrm : L < rm := Nat.lt_of_le_of_ne (Nat.le_of_lt_succ (Nat.lt_of_lt_of_le hLlt (Nat.le_of_eq hrs.symm))) (Ne.symm hrmL)
  obtain ⟨od, ed⟩ := map_live hm''
  have hdrm : d ≠ rm := fun e => by rw [e, hrn] at ed; cases ed
  have hrms : (rm == sysModules) = false := by
    have : sysModules < rm := Nat.lt_of_le_of_lt (Nat.le_trans (by decide : sysModules ≤ mainGlobals) (Nat.le_of_lt (Nat.lt_of_lt_of_le hg0 hL0))) hrm
    simpa using Nat.ne_of_gt this
  have kL : ∀ b o, b ∈ fp₀ → h'.get? b = some o → h₂.get? b = some o := fun b o hb e => k2 b o (fun h => hLf (h ▸ hb)) e
  have hst₂ : St₀ xs ({ s with heap := h₂, toks := tk₂, gens := gn } : Shared) := I.frame xs ({ s with heap := h', toks := tk, gens := gn } : Shared) h₂ tk₂ gn hst'' ht2 (fun b o hb e => hb.elim (fun hb => kL b o hb e) fun hb => (hno'' b hb).elim) (fun _ _ => rfl)
  have hno₂ : ∀ b, ¬ own₀ ({ s with heap := h₂, toks := tk₂, gens := gn } : Shared) b := fun b h => hno'' b (I.ownAt ({ s with heap := h', toks := tk, gens := gn } : Shared) h₂ tk₂ gn b kL ⟨xs, hst''⟩ h)
  obtain ⟨ga, _, _, ea, _⟩ := id hg
  obtain ⟨_, ⟨gc, _, _, ec, _⟩, _⟩ := id hlim
  have ea' := kf a (by simp) _ ea
  have ec' := kf cStatics (by simp) _ ec
  refine I.self _ xs _ _ _ hst₂ ?_
  intro k lv p hkk
  refine sel_loop (ex := [a, cStatics]) (rm := rm) (Ex := fun _ => True) I hfv hLf hdL hdw hds (fun _ _ _ _ => trivial) (fun s₀ s₁ _ mw => hkk s₀ s₁ ⟨rfl, rfl, mw⟩) (fun n s₀ y t s₁ kap m₁ ys seen _ hy mv sa₁ st₁ hoL hav₁ hkap => ?_) rfl ?_ ?_ xs [] ({ s with heap := h', toks := tk, gens := gn } : Shared) ({ s with heap := h₂, toks := tk₂, gens := gn } : Shared) m₂ ⟨[], rfl⟩ (by simpa using hlen)
    hst₂ sa hrmL (fun h => ?_) hrms (hno₂ _) hdrm (hno₂ _) (hno₂ _) (fun b hb => ⟨?_, hno₂ b⟩) trivial ?_
  · refine ⟨⟨y, t, hy, rfl⟩, mv, ⟨⟨m₁, sa₁.ns⟩, fun b hb => ?_, ys, st₁⟩, fun s₄ hres => hkap s₄ ?_⟩
    · rcases hb with ⟨m', hn, e⟩ | hb
      · have : b = rm := by rw [← sa₁.ns.agree hn _, sa₁.rmm] at e; injection e with e; injection e with e; exact e.symm
        subst this
        exact ⟨dict_live sa₁.res, (fun e => by rw [← e, hrn] at ea'; cases ea'), (fun e => by rw [← e, hrn] at ec'; cases ec')⟩
      · exact ⟨I.ownLive _ _ _ st₁ hb, fun e => (hav₁ a (by simp)).2 (e ▸ hb), fun e => (hav₁ cStatics (by simp)).2 (e ▸ hb)⟩
    · obtain ⟨h₅, tk₅, gn₅, rfl, ht₅, hk₅, hg₅⟩ := hres
      refine ⟨h₅, tk₅, gn₅, rfl, ht₅, fun b o hb e => hk₅ b o (hb.imp_left fun hb => ?_) e, hg₅⟩
      simp at hb ⊢
      rcases hb with hb | hb | hb | hb | hb
      · exact .inl hb
      · exact .inr (.inl hb)
      · exact .inr (.inr (.inr (.inr (.inr (.inr (.inl hb))))))
      · exact .inr (.inr (.inl hb))
      · exact .inr (.inr (.inr (.inl hb)))
  · have : ∀ x y : Nat, x ≤ 5 → y ≤ 5 → D + x + y ≤ D₀ := fun x y hx hy => by omega
    exact this _ _ (Nat.le_of_ble_eq_true rfl) (Nat.le_of_ble_eq_true rfl)
  · have : ∀ x y : Nat, x ≤ 40 → y ≤ 40 → U + 1 + x + y ≤ U₀ := fun x y hx hy => by omega
    exact this _ _ (Nat.le_of_ble_eq_true rfl) (Nat.le_of_ble_eq_true rfl)
  · exact absurd (hfl rm h) (Nat.lt_asymm hrm)
  · simp at hb
    rcases hb with rfl | rfl
    · exact Classical.byContradiction fun hne => hne (by
        by_cases hb : b = L
        · rw [hb]; exact ns_live sa.ns
        · exact ⟨_, k2 b _ hb ea'⟩)
    · by_cases hb : cStatics = L
      · rw [hb]; exact ns_live sa.ns
      · exact ⟨_, k2 _ _ hb ec'⟩
  · refine ⟨fun b o hb _ e => k2 b o (fun h => hb (by simp [h])) e, fun b o e => ?_, fun b hb => ?_, fun _ _ => rfl, fun h => h, rfl, rfl, ht2⟩
    · by_cases hbL : b = L
      · rw [hbL]; exact ns_live sa.ns
      · exact ⟨o, k2 b o hbL e⟩
    · rcases hb with ⟨m', hn, e⟩ | hb
      · have : b = rm := by rw [← sa.ns.agree hn _, sa.rmm] at e; injection e with e; injection e with e; exact e.symm
        exact .inr (this ▸ hrn)
      · exact (hno₂ b hb).elim
end SM14
section SM15
set_option maxHeartbeats 8000000
local macro_rules | `(tactic| walk_at "PAD0") => `(tactic| skip)
structure IsLead (h : Heap) (S : Addr) : Prop where
  is : ∃ o fd, ∃ (P : Nat → Pos) (kz : Nat), h.get? S = some o ∧ o.data = .func fd ∧ fd.scope = selScope ∧
    fd.body = .stmts (selFun P kz) ∧ fd.closure = [] ∧ fd.globals = mainGlobals ∧ fd.builtins = builtinsNs ∧ h.CodeRec fd.code fd.qualname ∧
    ∀ x y, bindArgs fd ⟨[x, y], []⟩ = pure [(Str.ofString "context", x), (Str.ofString "result", y)]
theorem IsLead.keep {h h' : Heap} {S : Addr} (x : IsLead h S) (hk : ∀ b o, h.get? b = some o → h'.get? b = some o) : IsLead h' S := by
  revert h h' S
  intro PK h h' S
  intro x hk
  obtain ⟨o, fd, P, kz, e1, e2, e3, e4, e5, e6, e7, e8, e9⟩ := x
  exact ⟨o, fd, P, kz, hk _ _ e1, e2, e3, e4, e5, e6, e7, e8.keeps hk, e9⟩
structure GenNew (w : World) (D U : Nat) (rd : Addr → Prop) (s s' : Shared) (v : Value) (outs : List Str) : Prop where
  keep : ∀ b o, s.heap.get? b = some o → s'.heap.get? b = some o
  bare : (∀ y ∈ s.gens, y.bare = true) → ∀ y ∈ s'.gens, y.bare = true
  drawn : s'.drawn = s.drawn
  os : s'.os = s.os
  toks : s.toks ≤ s'.toks
  it : ∃ a fp wr gf own St, v = .ref a ∧ It Challenge.pw_wv0033_01 w D U a fp wr gf own St ∧ St outs s' ∧ (∀ b, ¬ own s' b) ∧ (∀ b ∈ wr, s.heap.get? b = none) ∧ (∀ b ∈ fp, b < s'.heap.objs.size) ∧ (∀ b ∈ fp, rd b ∨ s.heap.get? b = none) ∧ (∀ k ∈ gf, k < s'.gens.size) ∧ ∃ g, s'.heap.IsGen a g
structure Grown (s s' : Shared) : Prop where
  keep : ∀ b o, s.heap.get? b = some o → s'.heap.get? b = some o
  bare : (∀ y ∈ s.gens, y.bare = true) → ∀ y ∈ s'.gens, y.bare = true
  drawn : s'.drawn = s.drawn
  os : s'.os = s.os
  toks : s.toks ≤ s'.toks
theorem Grown.refl {s : Shared} : Grown s s := ⟨fun _ _ e => e, fun h => h, rfl, rfl, Nat.le_refl _⟩
theorem Grown.trans {s s' s'' : Shared} (x : Grown s s') (y : Grown s' s'') : Grown s s'' := ⟨fun b o e => y.keep b o (x.keep b o e), fun h => y.bare (x.bare h), y.drawn.trans x.drawn, y.os.trans x.os, Nat.le_trans x.toks y.toks⟩
theorem Grown.none {s s' : Shared} (x : Grown s s') {b : Addr} (h : s'.heap.get? b = Option.none) : s.heap.get? b = Option.none := by
  cases e : s.heap.get? b with
  | none => rfl
  | some o => rw [x.keep b o e] at h; cases h
theorem GenNew.of_grown {w : World} {D U : Nat} {rd rd' : Addr → Prop} {s₀ s s' : Shared} {v : Value} {outs : List Str} (x : Grown s₀ s) (y : GenNew w D U rd s s' v outs) (h : ∀ b, rd b → rd' b ∨ s₀.heap.get? b = none) : GenNew w D U rd' s₀ s' v outs := by
  obtain ⟨g1, g2, g3, g4, g5, a, fp, wr, gf, own, St, e, I, hst, hno, hwr, hfp, hrd, hgf⟩ := y
  have G := x.trans ⟨g1, g2, g3, g4, g5⟩
  exact ⟨G.keep, G.bare, G.drawn, G.os, G.toks, a, fp, wr, gf, own, St, e, I, hst, hno, fun b hb => x.none (hwr b hb), hfp, fun b hb => (hrd b hb).elim (h b) fun z => .inr (x.none z), hgf⟩
theorem push_bare {g : Array GenState} {x : GenState} (hx : x.bare = true) (h : ∀ y ∈ g, y.bare = true) : ∀ y ∈ g.push x, y.bare = true := by
  intro y hy
  rcases Array.mem_push.mp hy with hy | rfl
  · exact h y hy
  · exact hx
theorem sel_binds (x y : Value) : ∀ z ∈ [(Str.ofString "context", x), (Str.ofString "result", y)], selScope.names.lookup z.1 = some .local := by
  intro z hz
  rcases List.mem_cons.mp hz with rfl | hz
  · rfl
  · rcases List.mem_cons.mp hz with rfl | hz
    · rfl
    · cases hz
theorem lead_call {w : World} {A : Around} {s : Shared} {S : Addr} {x y : Value} {Q E : Value → Shared → Prop} (hroom : A.depth < recursionLimit) (hl : IsLead s.heap S) (hlim : s.heap.NoLimit)
    (hQ : ∀ (P : Nat → Pos) (kz : Nat) (q : Str) (cdv : Value) (h' : Heap) (tk : Nat) (m : Str → Option Value),
      (∀ b o, s.heap.get? b = some o → h'.get? b = some o) → s.toks ≤ tk → h'.Ns s.heap.objs.size m → m (Str.ofString "context") = some x → m (Str.ofString "result") = some y → m (Str.ofString "result_map") = none →
      h'.IsGen (s.heap.objs.size + 1) s.gens.size → h'.NoLimit →
      Q (.ref (s.heap.objs.size + 1)) { s with heap := h', toks := tk, gens := s.gens.push (.fresh (.func (selFun P kz) (envOf q selScope s.heap.objs.size S cdv))) }) :
    wpAny (model Challenge.pw_wv0033_01 w) A (call (.ref S) [x, y]) Q E s := by
  revert w A s S x y Q E
  intro PK w A s S x y Q E
  intro hroom hl hlim hQ
  obtain ⟨o, fd, P, kz, e1, e2, e3, e4, e5, e6, e7, e8, e9⟩ := hl
  refine wpAny_call (codeAny_call_generator hroom e1 e2 (by rw [e3]; rfl) (by rw [e3]; rfl) e4 e8 ?_)
  rw [e9]
  refine wpAny_pure ?_
  rw [e3, e5, e6, e7]
  refine wpAny_newFunctionEnv (by decide) (sel_binds x y) (fun h' hn hs => ?_)
  have keep : ∀ b o, s.heap.get? b = some o → h'.get? b = some o := fun b o e => (hs.2 b (Nat.ne_of_lt (Heap.lt_size e))).trans (Heap.get?_push_of_some _ e)
  have hlim' : h'.NoLimit := hlim.keeps keep
  refine ⟨hlim', ?_⟩
  have hsz : h'.objs.size = s.heap.objs.size + 1 := by rw [hs.1, Heap.size_push]
  have := hQ P kz fd.qualname fd.code (h'.push { cls := .type "generator", data := .fields #[.int s.gens.size 0, .str fd.name (s.toks + 2), .str fd.qualname (s.toks + 2 + 1)] }) (s.toks + 2 + 1 + 1) _
    (fun b o e => Heap.get?_push_of_some _ (keep b o e)) (by omega) (hn.push _) rfl rfl rfl ⟨_, _, _, by rw [← hsz]; exact Heap.get?_push_size _ rfl, rfl, rfl, rfl⟩ (hlim'.push _)
  rw [← hsz] at this
  exact this
end SM15
section SM16
set_option maxHeartbeats 8000000
local macro_rules | `(tactic| walk_at "PAD0") => `(tactic| skip)
theorem get_size (h : Heap) : h.get? h.objs.size = none := by
  cases e : h.get? h.objs.size with
  | none => rfl
  | some o => exact absurd (Heap.lt_size e) (Nat.lt_irrefl _)
abbrev FvIs (fv : Str → Option Value) (F : Str → Option Str) : Prop := ∀ x, (fv x = none ∧ F x = none) ∨ ∃ p t, fv x = some (.str p t) ∧ F x = some p
theorem lead_list {w : World} {A : Around} {mean : ExcName → Option Value} {mg mb : Str → Option Value} {h₀ : Heap} {Lc : Addr} {mc : Str → Option Value} {s : Shared} {S c dd d l : Addr} {t₁ t₂ : Tok} {fv : Str → Option Value} {F : Str → Option Str} {ps : List (Str × Tok)} {Q E : Value → Shared → Prop}
    (hroom : A.depth < recursionLimit) (hS : IsLead s.heap S) (Fc : Fr h₀ Lc s.heap mc) (X : (hd.heap_1 w.params).In h₀) (T : Top topProg looseG mean mg mb h₀) (hc : IsCtx w s.heap c dd d t₁ t₂) (hm : s.heap.MapOf (PySem.strKind Challenge.pw_wv0033_01 w) d fv) (hfv : FvIs fv F) (hds : (d == sysModules) = false)
    (hl : s.heap.IsList l (strValues ps).toArray) (hlen : ps.length ≤ 1000) {rd : Addr → Prop} (z1 : rd cStatics) (z2 : rd c) (z3 : rd dd) (z4 : rd d) (z5 : rd l) (z6 : ∀ b, b < h₀.objs.size → rd b) (hQ : ∀ v s', GenNew w 345 420 rd s s' v (selR F [] (ps.map (·.1))) → Q v s') : wpAny (model Challenge.pw_wv0033_01 w) A (call (.ref S) [.ref c, .ref l]) Q E s := by
  revert w A mean mg mb h₀ Lc mc s S c dd d l t₁ t₂ fv F ps Q E rd
  intro PK w A mean mg mb h₀ Lc mc s S c dd d l t₁ t₂ fv F ps Q E
  intro hroom hS Fc X T hc hm hfv hds hl hlen
  intro PK rd
  intro z1 z2 z3 z4 z5 z6 hQ
  have hlim : s.heap.NoLimit := T.nolimit.keeps Fc.keep
  have hcl : cStatics < s.heap.objs.size := let ⟨_, h, _⟩ := hlim; h.lt
  refine lead_call hroom hS hlim fun P kz q cdv h' tk m hk ht hn e1 e2 e3 hg hlim' => hQ _ _ ?_
  have lt : ∀ {b o}, s.heap.get? b = some o → b < s.heap.objs.size := fun e => Heap.lt_size e
  obtain ⟨od, ed⟩ := map_live hm
  obtain ⟨ol, el, rl⟩ := id hl
  have ha : s.heap.objs.size + 1 < h'.objs.size := let ⟨_, _, _, e, _⟩ := hg; Heap.lt_size e
  have hL0 : h₀.objs.size ≤ s.heap.objs.size := Nat.le_trans Fc.above (Nat.le_of_lt Fc.ns.lt)
  have Fg : Fr h₀ s.heap.objs.size h' m := ⟨hn, fun b o e => hk b o (Fc.keep b o e), hL0⟩
  have G := sel_fresh_list (g := s.gens.size) (a := s.heap.objs.size + 1) (D := 345) (U := 420) (S := S) (q := q) (cdv := cdv) (F := F)
    (s := { s with heap := h', toks := tk, gens := s.gens.push (.fresh (.func (selFun P kz) (envOf q selScope s.heap.objs.size S cdv))) })
    (by decide) (by decide) Fg X T e1 e2 e3 ⟨hk _ _ hc.obj, hk _ _ hc.dict⟩ (map_at hm fun o e => hk _ o e) hfv hds (Nat.ne_of_lt (lt ed)) (Nat.succ_ne_self _) (Nat.ne_of_lt hcl) (Nat.ne_of_lt (lt el)) (hl.at fun o e => hk _ o e) hlen hg hlim' (Array.getElem?_push_size ..)
  refine ⟨hk, push_bare rfl, rfl, rfl, ht, s.heap.objs.size + 1, _, _, _, _, _, rfl, genIt (by decide) (ownerL (by simp) (Nat.succ_ne_self _) (Nat.ne_of_lt hcl)), G, ?_, ?_, ?_, ?_, ?_⟩
  · intro b z1q
    obtain ⟨m', rm, hn', e, _⟩ := z1q
    rw [← hn.agree hn' _, e3] at e; cases e
  · intro b hb
    simp at hb
    exact hb ▸ get_size _
  · intro b hb
    have big : ∀ {b : Addr}, b < s.heap.objs.size → b < h'.objs.size := fun h => Nat.lt_trans h (Nat.lt_trans (Nat.lt_succ_self _) ha)
    simp at hb
    rcases hb with rfl | rfl | rfl | rfl | rfl | rfl | rfl | rfl | rfl | hb
    all_goals first
      | exact ha
      | exact big hcl
      | exact hn.lt
      | exact big (lt ed)
      | exact big (lt el)
      | exact big (lt hc.obj)
      | exact big (lt hc.dict)
      | exact big (Nat.lt_of_lt_of_le hb hL0)
  · intro b hb
    have n1 : s.heap.get? (s.heap.objs.size + 1) = none := by
      cases e : s.heap.get? (s.heap.objs.size + 1) with
      | none => rfl
      | some o => exact absurd (lt e) (Nat.not_lt.mpr (Nat.le_succ _))
    simp at hb
    rcases hb with rfl | rfl | rfl | rfl | rfl | rfl | rfl | rfl | rfl | hb
    all_goals first
      | exact .inl z1
      | exact .inl z2
      | exact .inl z3
      | exact .inl z4
      | exact .inl z5
      | exact .inr n1
      | exact .inr (get_size _)
      | exact .inl (z6 _ hb)
  · exact ⟨by simp, _, hg⟩
theorem lead_gen {w : World} {A : Around} {mean : ExcName → Option Value} {mg mb : Str → Option Value} {h₀ : Heap} {Lc : Addr} {mc : Str → Option Value} {s s₀ : Shared} {sv : Value} {S c dd d : Addr} {t₁ t₂ : Tok} {fv : Str → Option Value} {F : Str → Option Str} {xs : List Str} {Q E : Value → Shared → Prop}
    (hroom : A.depth < recursionLimit) (hS : IsLead s.heap S) (Fc : Fr h₀ Lc s.heap mc) (X : (hd.heap_1 w.params).In h₀) (T : Top topProg looseG mean mg mb h₀) (hc : IsCtx w s.heap c dd d t₁ t₂) (hm : s.heap.MapOf (PySem.strKind Challenge.pw_wv0033_01 w) d fv) (hfv : FvIs fv F) (hds : (d == sysModules) = false)
    {rd : Addr → Prop} (G₀ : GenNew w 345 420 rd s₀ s sv xs) (z1 : rd cStatics) (z2 : rd c) (z3 : rd dd) (z4 : rd d) (z6 : ∀ b, b < h₀.objs.size → rd b) (hd₀ : ∃ o, s₀.heap.get? d = some o) (hlim₀ : s₀.heap.NoLimit) (hlen : xs.length ≤ 1000) (hQ : ∀ v s', GenNew w 330 300 rd s₀ s' v (selR F [] xs) → Q v s') : wpAny (model Challenge.pw_wv0033_01 w) A (call (.ref S) [.ref c, sv]) Q E s := by
  revert w A mean mg mb h₀ Lc mc s s₀ sv S c dd d t₁ t₂ fv F xs Q E rd
  intro PK w A mean mg mb h₀ Lc mc s s₀ sv S c dd d t₁ t₂ fv F xs Q E
  intro hroom hS Fc X T hc hm hfv hds
  intro PK rd
  intro G₀ z1 z2 z3 z4 z6 hd₀ hlim₀ hlen hQ
  have hlim : s.heap.NoLimit := T.nolimit.keeps Fc.keep
  have hcl : cStatics < s.heap.objs.size := let ⟨_, h, _⟩ := hlim; h.lt
  obtain ⟨g1, g2, g3, g4, g5, I₀, fp₀, wr₀, gf₀, own₀, St₀, rfl, I, hst, hno, hwr, hfp, hrd, hgf, _⟩ := G₀
  refine lead_call hroom hS hlim fun P kz q cdv h' tk m hk ht hn e1 e2 e3 hg hlim' => hQ _ _ ?_
  have lt : ∀ {b o}, s.heap.get? b = some o → b < s.heap.objs.size := fun e => Heap.lt_size e
  obtain ⟨od, ed⟩ := map_live hm
  have ha : s.heap.objs.size + 1 < h'.objs.size := let ⟨_, _, _, e, _⟩ := hg; Heap.lt_size e
  have hL0 : h₀.objs.size ≤ s.heap.objs.size := Nat.le_trans Fc.above (Nat.le_of_lt Fc.ns.lt)
  have Fg : Fr h₀ s.heap.objs.size h' m := ⟨hn, fun b o e => hk b o (Fc.keep b o e), hL0⟩
  have hgp : ∀ {x : GenState}, ∀ k ∈ gf₀, (s.gens.push x)[k]? = s.gens[k]? := fun {x} k hk => by
    have := hgf k hk
    rw [Array.getElem?_push_lt this, Array.getElem?_eq_getElem this]
  have hst' : St₀ xs ({ s with heap := h', toks := tk, gens := s.gens.push (.fresh (.func (selFun P kz) (envOf q selScope s.heap.objs.size S cdv))) } : Shared) :=
    I.frame xs s h' tk _ hst ht (fun b o _ e => hk b o e) hgp
  have hno' : ∀ b, ¬ own₀ ({ s with heap := h', toks := tk, gens := s.gens.push (.fresh (.func (selFun P kz) (envOf q selScope s.heap.objs.size S cdv))) } : Shared) b := fun b h => hno b (I.ownAt s h' tk _ b (fun b o _ e => hk b o e) ⟨xs, hst⟩ h)
  have hwn : ∀ b o, s₀.heap.get? b = some o → b ∉ wr₀ := fun b o e h => by rw [hwr b h] at e; cases e
  have hcw : cStatics ∉ wr₀ := by obtain ⟨_, ⟨o, _, _, e, _⟩, _⟩ := hlim₀; exact hwn _ _ e
  have hfw : ∀ b ∈ wr₀, b < s.heap.objs.size := fun b hb => hfp b (I.sub b hb)
  have G := sel_fresh_gen I (g := s.gens.size) (a := s.heap.objs.size + 1) (D := 330) (U := 300) (S := S) (q := q) (cdv := cdv) (F := F)
    (s := { s with heap := h', toks := tk, gens := s.gens.push (.fresh (.func (selFun P kz) (envOf q selScope s.heap.objs.size S cdv))) })
    (by decide) (by decide) (by decide) (by decide) Fg X T e1 e2 e3 ⟨hk _ _ hc.obj, hk _ _ hc.dict⟩ (map_at hm fun o e => hk _ o e) hfv hds (Nat.ne_of_lt (lt ed)) (fun h => Nat.lt_irrefl _ (hfp _ h)) (by obtain ⟨o, e⟩ := hd₀; exact hwn _ _ e) hst' hno' hfp hlen hg hlim' (Array.getElem?_push_size ..)
  refine ⟨fun b o e => hk b o (g1 b o e), fun h => push_bare rfl (g2 h), g3, g4, Nat.le_trans g5 ht, s.heap.objs.size + 1, _, _, _, _, _, rfl,
    genIt (by decide) (ownerG I (by simp) (fun b hb => by simp [hb]) (fun h => Nat.lt_irrefl _ (hgf _ h)) (Nat.succ_ne_self _) (Nat.ne_of_lt hcl) (fun h => Nat.lt_irrefl _ (Nat.lt_trans (Nat.lt_succ_self _) (hfw _ h))) hcw), G, ?_, ?_, ?_, ?_, ?_⟩
  · rintro b (⟨m', hn', e⟩ | h)
    · rw [← hn.agree hn' _, e3] at e; cases e
    · exact hno' b h
  · intro b hb
    rcases List.mem_cons.mp hb with rfl | hb
    · cases e : s₀.heap.get? s.heap.objs.size with
      | none => rfl
      | some o => have := g1 _ o e; rw [get_size] at this; cases this
    · exact hwr b hb
  · intro b hb
    have big : ∀ {b : Addr}, b < s.heap.objs.size → b < h'.objs.size := fun h => Nat.lt_trans h (Nat.lt_trans (Nat.lt_succ_self _) ha)
    simp at hb
    rcases hb with rfl | rfl | rfl | rfl | rfl | rfl | rfl | rfl | hb | hb
    all_goals first
      | exact ha
      | exact big hcl
      | exact hn.lt
      | exact big (lt ed)
      | exact big (lt hc.obj)
      | exact big (lt hc.dict)
      | exact big (hfp _ hb)
      | exact big (Nat.lt_of_lt_of_le hb hL0)
  · intro b hb
    have n0 : s₀.heap.get? s.heap.objs.size = none := by
      cases e : s₀.heap.get? s.heap.objs.size with
      | none => rfl
      | some o => have := g1 _ o e; rw [get_size] at this; cases this
    have n1 : s₀.heap.get? (s.heap.objs.size + 1) = none := by
      cases e : s₀.heap.get? (s.heap.objs.size + 1) with
      | none => rfl
      | some o => exact absurd (lt (g1 _ o e)) (Nat.not_lt.mpr (Nat.le_succ _))
    simp at hb
    rcases hb with rfl | rfl | rfl | rfl | rfl | rfl | rfl | rfl | hb | hb
    all_goals first
      | exact .inl z1
      | exact .inl z2
      | exact .inl z3
      | exact .inl z4
      | exact .inr n1
      | exact .inr n0
      | exact hrd _ hb
      | exact .inl (z6 _ hb)
  · refine ⟨fun k hk => ?_, _, hg⟩
    simp at hk ⊢
    rcases hk with rfl | hk
    · exact Nat.lt_succ_self _
    · exact Nat.lt_succ_of_lt (hgf k hk)
end SM16
section SM17
set_option maxHeartbeats 8000000
local macro_rules | `(tactic| walk_at "PAD0") => `(tactic| skip)
section
variable {prog : Program} {w : World} {A : Around} {E : Value → Shared → Prop} {R : Result → Shared → Prop} {s : Shared} {env : Env}
abbrev comp2 (elt : Expr) (x : String) (px : Pos) (iter : Expr) (y : String) (py : Pos) (iter' : Expr) (scope : Scope) (pos : Pos) : Expr := .ListComp elt [⟨nm x px, iter, [], 0⟩, ⟨nm y py, iter', [], 0⟩] scope pos
theorem wp_false {α : Type} {M : Model} {t : Sem α} {Q : α → Shared → Prop} (h : wpAny M A t Q (fun _ _ => False) s) : wpAny M A t Q E s := wpAny_mono h (fun _ _ q => q) fun _ _ f => f.elim
theorem comp2_outer {elt iter iter' : Expr} {x y : String} {px py pos : Pos} {scope : Scope} {it acc : Value} (I : Nat → Shared → Prop) (hs : ∀ v, foldedSetIterable iter' env v = pure v)
    (turn : ∀ n s, I n s → wpAny (model prog w) A (pyNext it) (fun r s₁ => match r with
      | none => R (.ok .next) s₁
      | some v => wpAny (model prog w) A (storeName env (Str.ofString x) v) (fun _ s₂ => wpAny (model prog w) A (eval iter' env) (fun xv s₃ => wpAny (model prog w) A (pyIter xv) (fun it' s₄ =>
          codeAny (model prog w) (A.mark none) (.compStart (comp2 elt x px iter y py iter' scope pos) 1 it' acc env) (fun r s₅ => match r with | .ok _ => ∃ m, m < n ∧ I m s₅ | .error _ => False) s₄) (fun _ _ => False) s₃) (fun _ _ => False) s₂) (fun _ _ => False) s₁) (fun _ _ => False) s)
    (n : Nat) (h : I n s) : codeAny (model prog w) A (.compLoop (comp2 elt x px iter y py iter' scope pos) 0 it acc env) R s := by
  refine codeAny_loop rfl I (fun n s hI => ?_) n h
  show wpAny _ A ((compTurn (comp2 elt x px iter y py iter' scope pos) 0 it acc env).onRaise (fun x => do noteFrame x env; theTreesLotGoes x)) _ _ s
  refine wpAny_onRaise (wp_false ?_)
  unfold compTurn
  refine wpAny_bind (wpAny_standAt (wpAny_bind (wpAny_mono (turn n s hI) (fun r s₁ h₁ => ?_) fun _ _ f => f)))
  cases r with
  | none => exact wpAny_pure h₁
  | some v =>
    refine wpAny_bind (wpAny_of_eq (rfl : letOwnedTupleGo (nm x px) it v = pure ()) ?_)
    refine wpAny_bind (wpAny_assign_Name (wpAny_mono h₁ (fun _ s₂ h₂ => wpAny_bind (wpAny_pure ?_)) fun _ _ f => f))
    simp only [if_true]
    refine wpAny_bind (wpAny_mono h₂ (fun xv s₃ h₃ => wpAny_bind (wpAny_standAt ?_)) fun _ _ f => f)
    show wpAny _ _ (foldedSetIterable iter' env xv >>= _) _ _ _
    rw [hs]
    refine wpAny_bind (wpAny_pure (wpAny_bind (wpAny_holding (wpAny_mono h₃ (fun it' s₄ h₄ => ?_) fun _ _ f => f))))
    refine wpAny_bind (wpAny_runOwn (codeAny_mono h₄ fun r s₅ h₅ => ?_))
    cases r with
    | error e => exact h₅.elim
    | ok f => exact wpAny_pure ⟨rfl, h₅⟩
theorem comp2_inner {elt iter iter' : Expr} {x y : String} {px py pos : Pos} {scope : Scope} {it acc : Value} (I : Nat → Shared → Prop)
    (turn : ∀ n s, I n s → wpAny (model prog w) A (pyNext it) (fun r s₁ => match r with
      | none => R (.ok .next) s₁
      | some v => wpAny (model prog w) A (storeName env (Str.ofString y) v) (fun _ s₂ => wpAny (model prog w) A (eval elt env) (fun xv s₃ => wpAny (model prog w) A (call (.builtin "list.append") [acc, xv]) (fun _ s₅ =>
          ∃ m, m < n ∧ I m s₅) (fun _ _ => False) s₃) (fun _ _ => False) s₂) (fun _ _ => False) s₁) (fun _ _ => False) s)
    (n : Nat) (h : I n s) : codeAny (model prog w) A (.compLoop (comp2 elt x px iter y py iter' scope pos) 1 it acc env) R s := by
  refine codeAny_loop rfl I (fun n s hI => ?_) n h
  show wpAny _ A ((compTurn (comp2 elt x px iter y py iter' scope pos) 1 it acc env).onRaise (fun x => do noteFrame x env; theTreesLotGoes x)) _ _ s
  refine wpAny_onRaise (wp_false ?_)
  unfold compTurn
  refine wpAny_bind (wpAny_standAt (wpAny_bind (wpAny_mono (turn n s hI) (fun r s₁ h₁ => ?_) fun _ _ f => f)))
  cases r with
  | none => exact wpAny_pure h₁
  | some v =>
    refine wpAny_bind (wpAny_of_eq (rfl : letOwnedTupleGo (nm y py) it v = pure ()) ?_)
    refine wpAny_bind (wpAny_assign_Name (wpAny_mono h₁ (fun _ s₂ h₂ => wpAny_bind (wpAny_pure ?_)) fun _ _ f => f))
    simp only [if_true]
    refine wpAny_bind ?_
    refine wpAny_bind (wpAny_mono h₂ (fun xv s₃ h₃ => wpAny_bind (wpAny_mono h₃ (fun _ s₄ h₄ => wpAny_pure (wpAny_pure ⟨rfl, h₄⟩)) fun _ _ f => f)) fun _ _ f => f)
theorem comp2_start {elt iter iter' : Expr} {x y : String} {px py pos : Pos} {scope : Scope} {it acc : Value}
    (h0 : codeAny (model prog w) A (.compLoop (comp2 elt x px iter y py iter' scope pos) 1 it acc env) R s)
    (h : wpAny (model prog w) A (pyIter it) (fun it' s' => codeAny (model prog w) A (.compLoop (comp2 elt x px iter y py iter' scope pos) 1 it' acc env) R s') (fun _ _ => False) s) :
    codeAny (model prog w) A (.compStart (comp2 elt x px iter y py iter' scope pos) 1 it acc env) R s := by
  refine codeAny_of_tree ?_
  show wpAny _ _ ((compStart (comp2 elt x px iter y py iter' scope pos) 1 it acc env).onRaise (fun x => do noteFrame x env; standAt theWindowsPlace)) _ _ s
  refine wpAny_onRaise (wp_false ?_)
  unfold compStart
  show wpAny _ _ (ask >>= _) _ _ s
  refine wpAny_bind (wpAny_askSetting (wpAny_ite ?_))
  split
  · first
      | exact wpAny_bind (wpAny_pure (wpAny_pure (And.intro rfl h0)))
      | exact wpAny_pure (And.intro rfl h0)
  · refine wpAny_bind (wpAny_rule ?_)
    show wpAny _ _ (standAt iter'.pos >>= _) _ _ s
    exact wpAny_bind (wpAny_standAt (wpAny_bind (wpAny_mono h (fun it' s' h' => wpAny_pure (And.intro rfl h')) fun _ _ x => x)))
end
end SM17
section SM18
set_option maxHeartbeats 8000000
local macro_rules | `(tactic| walk_at "PAD0") => `(tactic| skip)
structure Upto (C Dl : Addr) (s s' : Shared) : Prop where
  keep : ∀ b o, b ≠ C → b ≠ Dl → s.heap.get? b = some o → s'.heap.get? b = some o
  alive : ∀ b o, s.heap.get? b = some o → ∃ o', s'.heap.get? b = some o'
  bare : (∀ y ∈ s.gens, y.bare = true) → ∀ y ∈ s'.gens, y.bare = true
  drawn : s'.drawn = s.drawn
  os : s'.os = s.os
  toks : s.toks ≤ s'.toks
theorem Upto.refl {C Dl : Addr} {s : Shared} : Upto C Dl s s := ⟨fun _ _ _ _ e => e, fun _ _ e => ⟨_, e⟩, fun h => h, rfl, rfl, Nat.le_refl _⟩
theorem Upto.trans {C Dl : Addr} {s s' s'' : Shared} (x : Upto C Dl s s') (y : Upto C Dl s' s'') : Upto C Dl s s'' :=
  ⟨fun b o h1 h2 e => y.keep b o h1 h2 (x.keep b o h1 h2 e), fun b o e => let ⟨_, e'⟩ := x.alive b o e; y.alive b _ e', fun h => y.bare (x.bare h), y.drawn.trans x.drawn, y.os.trans x.os, Nat.le_trans x.toks y.toks⟩
theorem Upto.of_grown {C Dl : Addr} {s s' : Shared} (x : Grown s s') : Upto C Dl s s' := ⟨fun b o _ _ e => x.keep b o e, fun b o e => ⟨o, x.keep b o e⟩, x.bare, x.drawn, x.os, x.toks⟩
theorem Upto.at_ {C Dl a : Addr} {s : Shared} {h' : Heap} {tk : Nat} (ha : a = C ∨ a = Dl) (hs : Heap.SameBut a s.heap h') (hl : ∃ o, h'.get? a = some o) (ht : s.toks ≤ tk) : Upto C Dl s { s with heap := h', toks := tk } :=
  ⟨fun b o h1 h2 e => (hs.2 b (fun h => by rcases ha with ha | ha; exact h1 (h.trans ha); exact h2 (h.trans ha))).trans e,
   fun b o e => by
    by_cases h : b = a
    · subst h; exact hl
    · exact ⟨o, (hs.2 b h).trans e⟩, fun h => h, rfl, rfl, ht⟩
theorem Upto.after {C Dl : Addr} {s s' s'' : Shared} (x : Upto C Dl s s') (h : ∀ b o, s.heap.get? b ≠ none → s'.heap.get? b = some o → s''.heap.get? b = some o) (h1 : (∀ y ∈ s'.gens, y.bare = true) → ∀ y ∈ s''.gens, y.bare = true) (h2 : s''.drawn = s'.drawn) (h3 : s''.os = s'.os) (h4 : s'.toks ≤ s''.toks) : Upto C Dl s s'' :=
  ⟨fun b o hc hd e => h b o (by rw [e]; nofun) (x.keep b o hc hd e), fun b o e => let ⟨o', e'⟩ := x.alive b o e; ⟨o', h b o' (by rw [e]; nofun) e'⟩, fun h => h1 (x.bare h), h2.trans x.drawn, h3.trans x.os, Nat.le_trans x.toks h4⟩
theorem GenNew.grown {w : World} {D U : Nat} {rd : Addr → Prop} {s s' : Shared} {v : Value} {outs : List Str} (x : GenNew w D U rd s s' v outs) : Grown s s' := ⟨x.keep, x.bare, x.drawn, x.os, x.toks⟩
theorem strValues_push (qs : List (Str × Tok)) (x : Str) (t : Tok) : (strValues qs).toArray.push (.str x t) = (strValues (qs ++ [(x, t)])).toArray := by simp [strValues]
section
variable {w : World} {A : Around} {R : Result → Shared → Prop} {cenv : Env}
theorem drain_comp {D U : Nat} {rd : Addr → Prop} {s₀ s : Shared} {a : Addr} {outs : List Str} {qs : List (Str × Tok)} {x y : String} {px py py2 pos : Pos} {iter iter' : Expr} {scope : Scope} {Dl : Addr} {m : Str → Option Value}
    (hh : A.handled = none) (hD : A.depth ≤ D) (hU : A.units ≤ U) (G : GenNew w D U rd s₀ s (.ref a) outs)
    (hk : cenv.scope.kind = .function) (hy : cenv.kindOf (Str.ofString y) = some .local) (hyd : (Str.ofString y == ("__debug__" : Str)) = false) (hCD : cenv.locals ≠ Dl) (hC₀ : ¬ rd cenv.locals) (hD₀ : ¬ rd Dl) (hn : s₀.heap.Ns cenv.locals m) (hacc : s₀.heap.PlainList Dl (strValues qs).toArray) (hlen : qs.length + outs.length ≤ 100000)
    (hR : ∀ s' ts m', Upto cenv.locals Dl s₀ s' → ts.map (·.1) = outs → s'.heap.Ns cenv.locals m' → s'.heap.PlainList Dl (strValues (qs ++ ts)).toArray → R (.ok .next) s') :
    codeAny (model Challenge.pw_wv0033_01 w) A (.compLoop (comp2 (nm y py2) x px iter y py iter' scope pos) 1 (.ref a) (.ref Dl) cenv) R s := by
  revert w A R cenv D U rd s₀ s a outs qs x y px py py2 pos iter iter' scope Dl m
  intro PK w A R cenv D U rd s₀ s a outs qs x y px py py2 pos iter iter' scope Dl m
  intro hh hD hU G hk hy hyd hCD hC₀ hD₀ hn hacc hlen hR
  have grown := G.grown
  obtain ⟨g1, g2, g3, g4, g5, a', fp, wr, gf, own, St, e, I, hst, hno, hwr, hfp, hrd, hgf⟩ := G
  cases e
  obtain ⟨oC, eC⟩ := ns_live hn
  obtain ⟨nD, eD⟩ := id hacc
  have hCf : cenv.locals ∉ fp := fun h => (hrd _ h).elim hC₀ fun z => by rw [z] at eC; cases eC
  have hDf : Dl ∉ fp := fun h => (hrd _ h).elim hD₀ fun z => by rw [z] at eD; cases eD
  refine comp2_inner (fun n s' => ∃ done rest ts m', outs = done ++ rest ∧ n = rest.length + 1 ∧ ts.map (·.1) = done ∧ Upto cenv.locals Dl s₀ s' ∧ St rest s' ∧ (∀ b, own s' b → s₀.heap.get? b = none) ∧ s'.heap.Ns cenv.locals m' ∧ s'.heap.PlainList Dl (strValues (qs ++ ts)).toArray) ?_ (outs.length + 1)
    ⟨[], outs, [], m, rfl, rfl, rfl, .of_grown grown, hst, fun b h => (hno b h).elim, hn.keeps g1, by simpa using hacc.at fun o e => g1 _ o e⟩
  intro n s' z1q
  obtain ⟨done, rest, ts, m', hsp, rfl, hts, hup, hst', hown, hn', hacc'⟩ := z1q
  have hCo : ¬ own s' cenv.locals := fun h => by rw [hown _ h] at eC; cases eC
  have hDo : ¬ own s' Dl := fun h => by rw [hown _ h] at eD; cases eD
  have hCw : cenv.locals ∉ wr := fun h => by rw [hwr _ h] at eC; cases eC
  have hDw : Dl ∉ wr := fun h => by rw [hwr _ h] at eD; cases eD
  have step : ∀ (b : Addr) (_ : Obj), s₀.heap.get? b ≠ none → b ∉ wr ∧ ¬ own s' b := fun b _ h => ⟨fun hw => h (hwr b hw), fun ho => h (hown b ho)⟩
  cases rest with
  | nil =>
    refine I.done _ s' _ _ hh hD hU hst' fun s₁ mw => ?_
    simp at hsp
    refine hR s₁ ts m' (hup.after (fun b o h e => mw.heap b o (step b o h).1 (step b o h).2 e) mw.bare mw.drawn mw.os mw.toks) (hts.trans hsp.symm) (hn'.at' fun o e => mw.heap _ o hCw hCo e) (hacc'.at fun o e => mw.heap _ o hDw hDo e)
  | cons z zs =>
    refine I.item _ z zs s' _ _ hh hD hU hst' fun t s₁ hst₁ mv => ?_
    have hup₁ := hup.after (fun b o h e => mv.heap b o (step b o h).1 (step b o h).2 e) mv.bare mv.drawn mv.os mv.toks
    have hn₁ := hn'.at' fun o e => mv.heap _ o hCw hCo e
    have hacc₁ := hacc'.at fun o e => mv.heap _ o hDw hDo e
    have hown₁ : ∀ b, own s₁ b → s₀.heap.get? b = none := fun b h => (mv.own b h).elim (hown b) fun z => by
      cases e : s₀.heap.get? b with
      | none => rfl
      | some o => obtain ⟨o', e'⟩ := hup.alive b o e; rw [z] at e'; cases e'
    refine wpAny_storeName_local hy hn₁ (fun h₂ hn₂ hs₂ => ?_) (by rw [hk]; rfl)
    have hup₂ : Upto cenv.locals Dl s₀ { s₁ with heap := h₂, toks := s₁.toks + 1 } := hup₁.trans (.at_ (.inl rfl) hs₂ (ns_live hn₂) (Nat.le_succ _))
    have hCo₁ : ¬ own s₁ cenv.locals := fun h => by rw [hown₁ _ h] at eC; cases eC
    have hDo₁ : ¬ own s₁ Dl := fun h => by rw [hown₁ _ h] at eD; cases eD
    have hst₂ : St zs { s₁ with heap := h₂, toks := s₁.toks + 1 } := I.frame zs s₁ h₂ _ s₁.gens hst₁ (Nat.le_succ _) (fun b o hb e => (hs₂.2 b (by rcases hb with hb | hb; exact fun h => hCf (h ▸ hb); exact fun h => hCo₁ (h ▸ hb))).trans e) fun _ _ => rfl
    have hown₂ : ∀ b, own ({ s₁ with heap := h₂, toks := s₁.toks + 1 } : Shared) b → s₀.heap.get? b = none := fun b h => hown₁ b (I.ownAt s₁ h₂ _ s₁.gens b (fun b o hb e => (hs₂.2 b (fun h => hCf (h ▸ hb))).trans e) ⟨zs, hst₁⟩ h)
    refine name_ok hk hy hn₂ (if_pos rfl) ?_ hyd
    refine wpAny_list_append_plain (hacc₁.extBut hs₂.extBut (Ne.symm hCD)) (fun h₃ hp₃ hs₃ => ?_) (by have h1 := congrArg List.length hts; have h2 := congrArg List.length hsp; simp at h1 h2; simp [strValues]; unfold sizeLine; omega)
    have eD₂ : ∃ o, h₃.get? Dl = some o := let ⟨n, e⟩ := hp₃; ⟨_, e⟩
    refine ⟨zs.length + 1, by simp, done ++ [z], zs, ts ++ [(z, t)], _, by simp [hsp], rfl, by simp [hts], hup₂.trans (.at_ (tk := s₁.toks + 1) (.inr rfl) hs₃ eD₂ (Nat.le_refl _)), ?_, ?_, hn₂.sameBut hs₃ hCD, ?_⟩
    · exact I.frame zs _ h₃ (s₁.toks + 1) s₁.gens hst₂ (Nat.le_refl _) (fun b o hb e => (hs₃.2 b (by rcases hb with hb | hb; exact fun h => hDf (h ▸ hb); exact fun h => by have := hown₂ b hb; rw [h, eD] at this; cases this)).trans e) fun _ _ => rfl
    · exact fun b h => hown₂ b (I.ownAt { s₁ with heap := h₂, toks := s₁.toks + 1 } h₃ (s₁.toks + 1) s₁.gens b (fun b o hb e => (hs₃.2 b (fun h => hDf (h ▸ hb))).trans e) ⟨zs, hst₂⟩ h)
    · rw [strValues_push] at hp₃
      simpa using hp₃
end
end SM18
section SM19
set_option maxHeartbeats 8000000
local macro_rules | `(tactic| walk_at "PAD0") => `(tactic| skip)
section
variable {w : World} {A : Around} {env : Env}
theorem comp2_led {D U : Nat} {s : Shared} {x y : String} {px py py2 pos : Pos} {iter iter' : Expr} {scope : Scope} {cl : List (Str × Addr)} {l : Addr} {ps : List (Str × Tok)} {outsf : Str → List Str} {Q E : Value → Shared → Prop}
    (hh : A.handled = none) (hD : A.depth ≤ D) (hU : A.units ≤ U) (hclos : closureFor scope env = pure cl) (hcell : ∀ z ∈ scope.names, z.2 ≠ .cell) (hkind : scope.kind = .function)
    (hnames : ∀ z ∈ scope.names, z.2 = .local → scope.names.lookup z.1 = some .local) (hx : scope.names.lookup (Str.ofString x) = some .local) (hy : scope.names.lookup (Str.ofString y) = some .local)
    (hyd : (Str.ofString y == ("__debug__" : Str)) = false) (hs : ∀ v, foldedSetIterable iter env v = pure v) (hs' : ∀ C v, foldedSetIterable iter' (compEnvC scope cl C env) v = pure v)
    (hi : ∀ (Q E : Value → Shared → Prop), Q (.ref l) s → wpAny (model Challenge.pw_wv0033_01 w) A (eval iter env) Q E s) (hl : s.heap.IsList l (strValues ps).toArray) (hlen : ps.length ≤ 1000) (hout : ∀ z, (outsf z).length ≤ 10)
    (inner : ∀ C s' z t m' (Q E : Value → Shared → Prop), s.heap.get? C = none → C ≥ s.heap.objs.size → Grown s s' → s'.heap.Ns C m' → m' (Str.ofString x) = some (.str z t) → z ∈ ps.map (·.1) →
      (∀ a s'', GenNew w D U (fun b => b < s.heap.objs.size) s' s'' (.ref a) (outsf z) → Q (.ref a) s'') → wpAny (model Challenge.pw_wv0033_01 w) A (eval iter' (compEnvC scope cl C env)) Q E s')
    (hQ : ∀ Dl s' ts, s.heap.get? Dl = none → Grown s s' → ts.map (·.1) = ps.flatMap (fun p => outsf p.1) → s'.heap.PlainList Dl (strValues ts).toArray → Q (.ref Dl) s') :
    wpAny (model Challenge.pw_wv0033_01 w) A (eval (comp2 (nm y py2) x px iter y py iter' scope pos) env) Q E s := by
  revert w A env D U s x y px py py2 pos iter iter' scope cl l ps outsf Q E
  intro PK w A env D U s x y px py py2 pos iter iter' scope cl l ps outsf Q E
  intro hh hD hU hclos hcell hkind hnames hx hy hyd hs hs' hi hl hlen hout inner hQ
  rw [eval_ListComp]
  refine wpAny_comprehension_free (use := none) rfl hs hclos hkind hnames (hi _ _ (wpAny_pyIter_list hl ?_))
  refine wpAny_newObj_type (wpAny_newFunctionEnv hcell (by intro z hz; simp at hz) (fun h₁ hns₁ hsb₁ => ?_) hkind)
  dsimp only at hns₁ hsb₁ ⊢
  generalize hI : s.heap.objs.size = it at *
  generalize hH1 : s.heap.push { cls := .type "list_iterator", data := .fields #[.ref l, .int 0 0] } = H1 at *
  have hsz1 : H1.objs.size = it + 1 := by rw [← hH1, Heap.size_push, hI]
  generalize hH2 : H1.push { cls := .type "list", dict := none, data := .seq ([] : List Value).toArray } = H2 at hns₁ hsb₁ ⊢
  generalize hDl : H1.objs.size = Dl at *
  have hsz2 : H2.objs.size = Dl + 1 := by rw [← hH2, Heap.size_push, hDl]
  generalize hC : H2.objs.size = C at *
  have hitD : it ≠ Dl := by omega
  have hitC : it ≠ C := by omega
  have hDC : Dl ≠ C := by omega
  have lt : ∀ {b o}, s.heap.get? b = some o → b < it := fun {b o} e => hI ▸ Heap.lt_size e
  have fresh : ∀ b, it ≤ b → s.heap.get? b = none := fun b hb => by
    cases e : s.heap.get? b with
    | none => rfl
    | some o => exact absurd (lt e) (Nat.not_lt.mpr hb)
  have hiD : it ≤ Dl := by omega
  have hiC : it ≤ C := by omega
  have neq : ∀ {b o} {c : Addr}, s.heap.get? b = some o → it ≤ c → b ≠ c := fun e hc => Nat.ne_of_lt (Nat.lt_of_lt_of_le (lt e) hc)
  have fit := fresh it (Nat.le_refl _)
  have fD := fresh Dl (by omega)
  have fC := fresh C (by omega)
  have eIt : H1.get? it = some { cls := .type "list_iterator", data := .fields #[.ref l, .int 0 0] } := by rw [← hH1, ← hI]; exact Heap.get?_push_size _ rfl
  have eD2 : H2.get? Dl = some { cls := .type "list", dict := none, data := .seq ([] : List Value).toArray } := by rw [← hH2, ← hDl]; exact Heap.get?_push_size _ rfl
  have eIt1 : h₁.get? it = some { cls := .type "list_iterator", data := .fields #[.ref l, .int 0 0] } := (hsb₁.2 it hitC).trans (Heap.get?_push_of_some _ (by rw [← hH2]; exact Heap.get?_push_of_some _ eIt))
  have eD1 : h₁.get? Dl = some { cls := .type "list", dict := none, data := .seq ([] : List Value).toArray } := (hsb₁.2 Dl hDC).trans (Heap.get?_push_of_some _ eD2)
  have old : ∀ b o, s.heap.get? b = some o → h₁.get? b = some o := fun b o e => (hsb₁.2 b (neq e hiC)).trans (Heap.get?_push_of_some _ (by rw [← hH2]; exact Heap.get?_push_of_some _ (by rw [← hH1]; exact Heap.get?_push_of_some _ e)))
  have hll : l < it := let ⟨o, e, _⟩ := hl; lt e
  -- the loop
  have loop : ∀ s₁ : Shared, s₁ = { s with heap := h₁, toks := s.toks } → codeAny (model Challenge.pw_wv0033_01 w) A (.compLoop (comp2 (nm y py2) x px iter y py iter' scope pos) 0 (.ref it) (.ref Dl) (compEnvC scope cl C env))
      (compPost (model Challenge.pw_wv0033_01 w) A E none Q (.ref Dl) C) s₁ := by
    rintro s₁ rfl
    refine comp2_outer (fun n s' => ∃ i ts m', n = ps.length - i + 1 ∧ i ≤ ps.length ∧ Grown s s' ∧ s'.heap.IsListIter it l i ∧ s'.heap.PlainList Dl (strValues ts).toArray ∧ ts.map (·.1) = (ps.take i).flatMap (fun p => outsf p.1) ∧ ts.length ≤ 10 * i ∧ s'.heap.Ns C m') (hs' C) ?_ (ps.length + 1)
      ⟨0, [], _, by simp, Nat.zero_le _, ⟨old, fun h => h, rfl, rfl, Nat.le_refl _⟩, ⟨_, eIt1, rfl, rfl⟩, ⟨0, eD1⟩, by simp, by simp, hns₁⟩
    intro n s' z1q
    obtain ⟨i, ts, m', rfl, hi', G, hit, hpl, hts, htl, hn⟩ := z1q
    have hl' : s'.heap.IsList l (strValues ps).toArray := hl.at fun o e => G.keep l o e
    cases e : ps[i]? with
    | none =>
      refine wpAny_pyNext_list_end hh hit hl' (by simp [strValues, e]) fun h' hs₁ => ?_
      have hle : ps.length ≤ i := by simpa using e
      refine ⟨m', hn.extBut hs₁ (Ne.symm hitC), fun h'' hs₂ => hQ Dl _ ts fD ⟨fun b o e => ?_, G.bare, G.drawn, G.os, G.toks⟩ (by rw [hts, List.take_of_length_le hle]) ((hpl.extBut hs₁ (Ne.symm hitD)).extBut hs₂.extBut hDC)⟩
      exact hs₂.extBut b o (neq e hiC) (hs₁ b o (neq e (Nat.le_refl _)) (G.keep b o e))
    | some p =>
      obtain ⟨hlt, rfl⟩ := List.getElem?_eq_some_iff.mp e
      refine wpAny_pyNext_list_item hit hl' (x := .str ps[i].1 ps[i].2) (by simp [strValues, hlt]) fun h' hit' hs₁ => ?_
      refine wpAny_storeName_local (lookup_relabel_local hx) (hn.sameBut hs₁ (Ne.symm hitC)) (fun h₂ hn₂ hs₂ => ?_) (by simp [compEnvC, relabel, hkind])
      replace hs₂ : Heap.SameBut C h' h₂ := hs₂
      replace hn₂ : h₂.Ns C (fun z => if z = Str.ofString x then some (.str ps[i].1 ps[i].2) else m' z) := hn₂
      have G₂ : Grown s { s' with heap := h₂, toks := s'.toks + 1 } := ⟨fun b o e => (hs₂.2 b (neq e hiC)).trans ((hs₁.2 b (neq e (Nat.le_refl _))).trans (G.keep b o e)), G.bare, G.drawn, G.os, Nat.le_succ_of_le G.toks⟩
      have hit₂ : h₂.IsListIter it l (i + 1) := hit'.extBut hs₂.extBut hitC
      have hpl₂ : h₂.PlainList Dl (strValues ts).toArray := (hpl.extBut hs₁.extBut (Ne.symm hitD)).extBut hs₂.extBut hDC
      refine inner C _ ps[i].1 ps[i].2 _ _ _ fC hiC G₂ hn₂ (if_pos rfl) (List.mem_map_of_mem (List.getElem_mem hlt)) fun a s₃ Gn => ?_
      have hself := Gn
      obtain ⟨-, -, -, -, -, a', fp, wr, gf, own, St, ea, I, hst, -⟩ := hself
      cases ea
      refine I.self _ _ _ _ _ hst ?_
      have drain : codeAny (model Challenge.pw_wv0033_01 w) (A.mark none) (.compLoop (comp2 (nm y py2) x px iter y py iter' scope pos) 1 (.ref a) (.ref Dl) (compEnvC scope cl C env))
          (fun r s₅ => match r with | .ok _ => ∃ m, m < ps.length - i + 1 ∧ ∃ i ts m', m = ps.length - i + 1 ∧ i ≤ ps.length ∧ Grown s s₅ ∧ s₅.heap.IsListIter it l i ∧ s₅.heap.PlainList Dl (strValues ts).toArray ∧ ts.map (·.1) = (ps.take i).flatMap (fun p => outsf p.1) ∧ ts.length ≤ 10 * i ∧ s₅.heap.Ns C m' | .error _ => False) s₃ := by
        refine drain_comp (cenv := compEnvC scope cl C env) (qs := ts) hh hD hU Gn (by simp [compEnvC, relabel, hkind]) (lookup_relabel_local hy) hyd (Ne.symm hDC) (Nat.not_lt.mpr hiC) (Nat.not_lt.mpr hiD) hn₂ hpl₂ (by have := hout ps[i].1; omega) fun s₅ ts' m₅ hup ht5 hn5 hp5 => ?_
        refine ⟨ps.length - (i + 1) + 1, Nat.succ_lt_succ (Nat.sub_succ_lt_self _ _ hlt), i + 1, ts ++ ts', m₅, rfl, hlt, ⟨fun b o e => hup.keep b o (neq e hiC) (neq e hiD) (G₂.keep b o e), fun h => hup.bare (G₂.bare h), hup.drawn.trans G₂.drawn, hup.os.trans G₂.os, Nat.le_trans G₂.toks hup.toks⟩, hit₂.at fun o e => hup.keep it o hitC hitD e, hp5, ?_, ?_, hn5⟩
        · rw [List.take_succ_eq_append_getElem hlt, List.flatMap_append, List.map_append, hts, ht5]; simp
        · have h1 := congrArg List.length ht5
          have h2 := hout ps[i].1
          simp at h1 ⊢
          omega
      exact comp2_start drain (I.self _ _ _ _ _ hst drain)
  exact codeAny_compStart_list (loop _ rfl) (wpAny_pyIter_listiter ⟨_, eIt1, rfl, rfl⟩ (loop _ rfl))
end
end SM19
section SM20
set_option maxHeartbeats 1000000
local macro_rules | `(tactic| walk_at "PAD0") => `(tactic| skip)
abbrev Has (h : Heap) (news : Led) : Prop := ∀ p ∈ news, h.get? p.1 = some p.2
abbrev Sure (news : Led) (P : Heap → Prop) : Prop := ∀ h, Has h news → P h
structure Same (s s' : Shared) : Prop where
  bare : (∀ y ∈ s.gens, y.bare = true) → ∀ y ∈ s'.gens, y.bare = true
  drawn : s'.drawn = s.drawn
  os : s'.os = s.os
theorem Grown.same {s s' : Shared} (x : Grown s s') : Same s s' := ⟨x.bare, x.drawn, x.os⟩
theorem Same.trans {s s' s'' : Shared} (x : Same s s') (y : Same s' s'') : Same s s'' := ⟨fun h => y.bare (x.bare h), y.drawn.trans x.drawn, y.os.trans x.os⟩
theorem has_of {h₀ h : Heap} {L : Addr} {news : Led} (N : News h₀ L h news) : Has h news := fun p hp => (N p hp).1
theorem news_add {g h h' : Heap} {L a : Addr} {m : Str → Option Value} {news : Led} {o : Obj} (F : Fr g L h m) (N : News g L h news) (hk : ∀ b o, h.get? b = some o → h'.get? b = some o) (hf : h.get? a = none) (ho : h'.get? a = some o) : News g L h' ((a, o) :: news) := by
  intro p hp
  rcases List.mem_cons.mp hp with rfl | hp
  · refine ⟨ho, ?_, ?_⟩
    · rintro rfl
      obtain ⟨o, e⟩ := ns_live F.ns
      rw [hf] at e; cases e
    · cases e : g.get? a with
      | none => rfl
      | some o => rw [F.keep _ _ e] at hf; cases hf
  · exact N.keepsAll hk p hp
def CtrN (w : World) (D U : Nat) (f : Value) (vs : List Value) (news : Led) (Out : Value → Led → Prop) : Prop :=
  ∀ (mean : ExcName → Option Value) (mg mb : Str → Option Value) (gd : Option (List Code)) (cn : Str) (cs : Scope) (a : Addr) (ccd : Value) (cl : List (Str × Addr)) (outer : List Env) (A₀ : Around) (base h₀ : Heap) (L : Addr) (m : Str → Option Value) (s : Shared) (Q E : Value → Shared → Prop),
    Below A₀ base outer h₀ → Fr h₀ L s.heap m → (hd.heap_1 w.params).In h₀ → News h₀ L s.heap news → Top topProg looseG mean mg mb h₀ → cs.kind = .function →
    (∀ (v : Value) (news' : Led) (s' : Shared), Out v news' → Same s s' → Fr h₀ L s'.heap m → News h₀ L s'.heap news' → Q v s') →
    wpAny (model PySem.Challenge.pw_wv0033_01 w) (ktrTop D U gd cn cs L a ccd cl outer) (call f vs) Q E s
theorem CtrN.mono {w : World} {D U : Nat} {f : Value} {vs : List Value} {news : Led} {Out Out' : Value → Led → Prop} (C : CtrN w D U f vs news Out) (h : ∀ v nx, Out v nx → Out' v nx) : CtrN w D U f vs news Out' :=
  fun mean mg mb gd cn cs a ccd cl outer A₀ base h₀ L m s Q E b1 b2 b3 b4 b5 b6 b7 => C mean mg mb gd cn cs a ccd cl outer A₀ base h₀ L m s Q E b1 b2 b3 b4 b5 b6 fun v nx s' o => b7 v nx s' (h v nx o)
theorem CtrK.mono {w : World} {D U : Nat} {f : Value} {vs : List Value} {kw : List (Str × Value)} {news : Led} {Out Out' : Value → Led → Prop} (C : CtrK w D U f vs kw news Out) (h : ∀ v nx, Out v nx → Out' v nx) : CtrK w D U f vs kw news Out' :=
  fun mean mg mb gd cn cs a ccd cl outer A₀ base h₀ L m s Q E b1 b2 b3 b4 b5 b6 b7 => C mean mg mb gd cn cs a ccd cl outer A₀ base h₀ L m s Q E b1 b2 b3 b4 b5 b6 fun v nx h' tk o => b7 v nx h' tk (h v nx o)
theorem lead_fn {h : Heap} {S : Addr} (x : IsLead h S) : FnAt S h := by
  obtain ⟨⟨oc, dc, od, sl⟩, fd, P, kz, e1, e2, _⟩ := x
  simp at e2
  subst e2
  exact ⟨_, _, _, _, e1⟩
theorem name_cell {prog : Program} {w : World} {A : Around} {E : Value → Shared → Prop} {s : Shared} {env : Env} {x : String} {p : Pos} {c : Addr} {v : Value} {Q : Value → Shared → Prop} (hk : env.scope.kind = .function) (hl : env.kindOf (Str.ofString x) = some .cell) (hc : env.cells.lookup (Str.ofString x) = some c) (hv : s.heap.IsCell c (some v)) (h : Q v s)
    (hd : (Str.ofString x == ("__debug__" : Str)) = false := by decide) : wpAny (model prog w) A (eval (nm x p) env) Q E s :=
  wpAny_Name (wpAny_loadName_cell hk hl hc hv h) hd
theorem inner_led {w : World} {A : Around} {mean : ExcName → Option Value} {mg mb : Str → Option Value} {cenv : Env} {h₀ : Heap} {Lc : Addr} {mc : Str → Option Value} {s s' : Shared} {S c dd d kl kc : Addr} {t₁ t₂ : Tok} {fv : Str → Option Value} {F : Str → Option Str} {z : Str} {t : Tok} {m : Str → Option Value} {p1 p2 p3 p4 p5 : Pos} {Q E : Value → Shared → Prop}
    (hroom : A.depth < recursionLimit) (hk : cenv.scope.kind = .function) (hl : cenv.kindOf (Str.ofString "lead") = some .cell) (hlc : cenv.cells.lookup (Str.ofString "lead") = some kl) (hc : cenv.kindOf (Str.ofString "context") = some .cell) (hcc : cenv.cells.lookup (Str.ofString "context") = some kc) (hz : cenv.kindOf (Str.ofString "name") = some .local)
    (vl : s.heap.IsCell kl (some (.ref S))) (vc : s.heap.IsCell kc (some (.ref c))) (hS : IsLead s.heap S) (Fc : Fr h₀ Lc s.heap mc) (X : (hd.heap_1 w.params).In h₀) (T : Top topProg looseG mean mg mb h₀) (hctx : IsCtx w s.heap c dd d t₁ t₂) (hm : s.heap.MapOf (PySem.strKind Challenge.pw_wv0033_01 w) d fv) (hfv : FvIs fv F) (hds : (d == sysModules) = false)
    (G : Grown s s') (hn : s'.heap.Ns cenv.locals m) (hv : m (Str.ofString "name") = some (.str z t))
    (hQ : ∀ a s'', GenNew w 345 420 (fun b => b < s.heap.objs.size) s' s'' (.ref a) (F z).toList → Q (.ref a) s'') :
    wpAny (model Challenge.pw_wv0033_01 w) A (eval (.Call (nm "lead" p1) [nm "context" p2, .List [nm "name" p3] p4] [] p5) cenv) Q E s' := by
  have cell : ∀ {k v}, s.heap.IsCell k v → s'.heap.IsCell k v := fun ⟨o, e, r⟩ => ⟨o, G.keep _ _ e, r⟩
  refine wpAny_Call_NameR (name_cell hk hl hlc (cell vl) (callWith_F (lead_fn (hS.keep G.keep)) (spliced_more (name_cell hk hc hcc (cell vc) (spliced_more (wpAny_List (spliced_more (name_ok hk hz hn hv (spliced_none ⟨Nat.le_of_ble_eq_true rfl, ?_⟩))))))))) 
  refine spliced_none ⟨lead_fn ((hS.keep G.keep).keep fun b o e => Heap.get?_push_of_some _ e), ?_⟩
  have G1 : Grown s' { s' with heap := s'.heap.push { cls := .type "list", data := .seq [Value.str z t].toArray } } := ⟨fun b o e => Heap.get?_push_of_some _ e, fun h => h, rfl, rfl, Nat.le_refl _⟩
  have G2 := G.trans G1
  have lt : ∀ {b o}, s.heap.get? b = some o → b < s.heap.objs.size := fun e => Heap.lt_size e
  have hlim : s.heap.NoLimit := T.nolimit.keeps Fc.keep
  obtain ⟨od, ed⟩ := map_live hm
  refine lead_list (ps := [(z, t)]) (rd := fun b => b < s.heap.objs.size ∨ b = s'.heap.objs.size) hroom (hS.keep G2.keep) (Fc.kept G2.keep) X T ⟨G2.keep _ _ hctx.obj, G2.keep _ _ hctx.dict⟩ (map_at hm fun o e => G2.keep _ o e) hfv hds
    ⟨_, Heap.get?_push_size _ rfl, rfl, _, rfl⟩ (by simp) (.inl (let ⟨_, h, _⟩ := hlim; h.lt)) (.inl (lt hctx.obj)) (.inl (lt hctx.dict)) (.inl (lt ed)) (.inr rfl) (fun b hb => .inl (Nat.lt_of_lt_of_le hb (Nat.le_trans Fc.above (Nat.le_of_lt Fc.ns.lt)))) fun v s'' Gn => ?_
  have Gn' := GenNew.of_grown (rd' := fun b => b < s.heap.objs.size) G1 Gn fun b hb => by rcases hb with hb | rfl; exact .inl hb; exact .inr (get_size _)
  have hsel : selR F [] ([(z, t)].map (·.1)) = (F z).toList := by
    simp only [List.map_cons, List.map_nil, selR]
    cases F z <;> simp
  rw [hsel] at Gn'
  obtain ⟨_, _, _, _, _, a, _, _, _, _, _, e, _⟩ := id Gn'
  subst e
  exact hQ a s'' Gn'
end SM20
section SN1
set_option maxHeartbeats 2000000
local macro_rules | `(tactic| walk_at "PAD0") => `(tactic| skip)
structure RestOk (Rl : Shared → Shared → Prop) : Prop where
  refl : ∀ s, Rl s s
  trans : ∀ {a b c}, Rl a b → Rl b c → Rl a c
  step : ∀ s h tk, Rl s { s with heap := h, toks := tk }
  back : ∀ {s c} h tk, Rl s c → Rl { s with heap := h, toks := tk } c
abbrev HT : Shared → Shared → Prop := fun s s' => ∃ h tk, s' = { s with heap := h, toks := tk }
theorem restHT : RestOk HT := ⟨fun s => ⟨s.heap, s.toks, rfl⟩, by rintro a b c ⟨h, t, rfl⟩ ⟨h', t', rfl⟩; exact ⟨h', t', rfl⟩, fun s h tk => ⟨h, tk, rfl⟩, by rintro s c h tk ⟨h', t', rfl⟩; exact ⟨h', t', rfl⟩⟩
theorem restSame : RestOk Same := ⟨fun s => ⟨fun h => h, rfl, rfl⟩, fun x y => x.trans y, fun s h tk => ⟨fun h => h, rfl, rfl⟩, fun h tk x => ⟨x.bare, x.drawn, x.os⟩⟩
structure StepN (Rl : Shared → Shared → Prop) (h₀ : Heap) (L : Addr) (wr : List Addr) (own : Led) (X : (Str → Option Value) → Led → Prop) (s s₃ : Shared) : Prop where
  out : ∃ m' news', Rl s s₃ ∧ Fr h₀ L s₃.heap m' ∧ News h₀ L s₃.heap (news' ++ own) ∧ (∀ p ∈ news', p.1 ∉ wr) ∧ X m' news'
inductive TurnN (Rl : Shared → Shared → Prop) (h₀ : Heap) (L : Addr) (wr : List Addr) (own : Led) (X : (Str → Option Value) → Led → Prop) (s : Shared) (Q : Flow → Shared → Prop) : Flow → Shared → Prop
  | next {s₃} : StepN Rl h₀ L wr own X s s₃ → TurnN Rl h₀ L wr own X s Q .next s₃
  | cont {s₃} : StepN Rl h₀ L wr own X s s₃ → TurnN Rl h₀ L wr own X s Q .cont s₃
  | brk {s₃} : Q .next s₃ → TurnN Rl h₀ L wr own X s Q .brk s₃
  | ret {v s₃} : Q (.ret v) s₃ → TurnN Rl h₀ L wr own X s Q (.ret v) s₃
theorem setItem_N {prog : Program} {w : World} {A : Around} {E : Value → Shared → Prop} {s : Shared} {h₀ : Heap} {L l : Addr} {m : Str → Option Value} {its : Array Value} {n : Nat} {k : Int} {t : Tok} {v : Value} {rest : Led} {Q : Unit → Shared → Prop} (F : Fr h₀ L s.heap m) (N : News h₀ L s.heap ((l, W.listOf its n) :: rest))
    (hne : ∀ p ∈ rest, p.1 ≠ l) (h0 : 0 ≤ k) (hf : k < 1000000) (hk : k < its.size) (hQ : ∀ h', Fr h₀ L h' m → News h₀ L h' ((l, W.listOf (its.setIfInBounds k.toNat v) n) :: rest) → Q () { s with heap := h' }) : wpAny (model prog w) A (setItem (.ref l) (.int k t) v) Q E s := by
  have z := N (l, W.listOf its n) (List.mem_cons_self ..)
  have e : News h₀ L (s.heap.update l (Obj.mapSeq fun a => a.setIfInBounds k.toNat v)) ([] ++ (l, W.listOf (its.setIfInBounds k.toNat v) n) :: rest) :=
    ki_turn (its := its) (n := n) (pre := []) (post := rest) (fun a => a.setIfInBounds k.toNat v) N (fun _ h => nomatch h) hne rfl (by rw [Array.size_setIfInBounds, beq_self_eq_true]; rfl)
  have hk63 : k < 2 ^ 63 := by omega
  exact ki_setAt z.1 h0 hk63 hk (hQ _ (F.change (Heap.SameBut.update ..) z.2.1 z.2.2) e)
theorem off_two {l a : Addr} {S : Nat} {news own : Led} (h1 : ∀ p ∈ news, p.1 < l) (h2 : l < S) (h3 : l ≠ a) (how : ∀ p ∈ own, p.1 = a ∨ S ≤ p.1) : ∀ p ∈ news ++ own, p.1 ≠ l := by
  intro p hp e
  rcases List.mem_append.mp hp with hp | hp
  · exact Nat.lt_irrefl _ (e ▸ h1 p hp)
  · rcases how p hp with h | h
    · exact h3 (e ▸ h)
    · exact Nat.lt_irrefl _ (Nat.lt_of_lt_of_le (e ▸ h2) (e ▸ h))
theorem newList_S {M : Model} {A : Around} {E : Value → Shared → Prop} {s : Shared} {h₀ : Heap} {L : Addr} {m : Str → Option Value} {news : Led} {vs : List Value} {Q : Value → Shared → Prop} (F : Fr h₀ L s.heap m) (N : News h₀ L s.heap news)
    (h : ∀ l h', l = s.heap.objs.size → Fr h₀ L h' m → News h₀ L h' ((l, W.listOf vs.toArray 0) :: news) → (∀ p ∈ news, p.1 < l) → Q (.ref l) { s with heap := h' }) (hsz : vs.length ≤ sizeLine := by size_fits) : wpAny M A (newList vs) Q E s :=
  newList_N F N (fun h' F' N' => h _ h' rfl F' N' fun p hp => Heap.lt_size (N p hp).1) hsz
theorem list_ne_ns {h : Heap} {l L : Addr} {its : Array Value} {m : Str → Option Value} (x : h.IsList l its) (n : h.Ns L m) : l ≠ L := by
  rintro rfl
  obtain ⟨o, e, _, k, d⟩ := x
  obtain ⟨o', _, _, e', d', _⟩ := n
  rw [e] at e'
  cases e'
  rw [d] at d'
  cases d'
theorem off_same {l : Addr} {o o' : Obj} {r : Led} {P : Addr → Prop} (h : ∀ p ∈ (l, o) :: r, P p.1) : ∀ p ∈ (l, o') :: r, P p.1 := by
  intro p hp
  rcases List.mem_cons.mp hp with rfl | hp
  · exact h (l, o) (List.mem_cons_self ..)
  · exact h p (List.mem_cons_of_mem _ hp)
section
variable {prog : Program} {w : World} {A : Around} {E : Value → Shared → Prop} {s : Shared} {env : Env} {h₀ : Heap} {target : Expr} {body : List Stmt} {Q : Flow → Shared → Prop} {Rl : Shared → Shared → Prop}
structure ForBody (prog : Program) (w : World) (A : Around) (target : Expr) (body : List Stmt) (env : Env) (Q : Flow → Shared → Prop) (E : Value → Shared → Prop) (it : Value) (s₂ : Shared) : Prop where
  out : codeAny (model prog w) A (.forLoop target it body [] env) (fun r s' => match r with | .ok f => Q f s' | .error e => cameBackBy (model prog w) A env E e s') s₂
theorem For_N {iter : Expr} {pos : Pos} (h : wpAny (model prog w) A (eval iter env) (fun xv s₁ => wpAny (model prog w) A (pyIter xv) (ForBody prog w A target body env Q E) E s₁) E s)
    (hs : ∀ x, foldedSetIterable iter env x = pure x := by intro _; rfl) : wpAny (model prog w) A (exec (.For target iter body [] pos) env) Q E s :=
  wpAny_For (wpAny_mono h (fun _ _ h₁ => wpAny_mono h₁ (fun _ _ h₂ => h₂.out) fun _ _ e => e) fun _ _ e => e) hs
theorem loopN {I : Addr} {fp wr : List Addr} {n : Nat} {P Md : Nat → Value → Heap → Prop} {St : Nat → Heap → Prop} {m : Str → Option Value} {news : Led} (hR : RestOk Rl) (W : KTurns prog w A target I fp wr n P Md St) (hlive : ∀ i h, St i h → ∀ b ∈ wr, ∃ o, h.get? b = some o)
    (hLf : env.locals ∉ fp) (hwr : ∀ b ∈ wr, h₀.get? b = none) (hnw : ∀ p ∈ news, p.1 ∉ wr) (hst : St 0 s.heap) (F : Fr h₀ env.locals s.heap m) (N : News h₀ env.locals s.heap news)
    (J : Nat → (Str → Option Value) → Led → Prop) (h0 : J 0 m news)
    (step : ∀ i v m₁ news₁ s₁ own, i < n → P i v s₁.heap → J i m₁ news₁ → (∀ p ∈ news₁, p.1 ∉ wr) → (∀ p ∈ own, p.1 ∈ fp) → (∀ b ∈ wr, ∃ o, (b, o) ∈ own) → St (i + 1) s₁.heap → Rl s s₁ →
      Fr h₀ env.locals s₁.heap m₁ → News h₀ env.locals s₁.heap (news₁ ++ own) →
      wpAny (model prog w) A (assign target env v) (fun _ s₂ => wpAny (model prog w) A (execs body env) (TurnN Rl h₀ env.locals wr own (J (i + 1)) s Q) E s₂) E s₁)
    (rest : ∀ m' news' s', Rl s s' → Fr h₀ env.locals s'.heap m' → News h₀ env.locals s'.heap news' → (∀ p ∈ news', p.1 ∉ wr) → J n m' news' → Q .next s')
    (hE : PassesOwn (model prog w) A env E) :
    ForBody prog w A target body env Q E (.ref I) s := by
  revert prog w A E s env h₀ target body Q Rl I fp wr n P Md St m news J
  intro PK prog w A E s env h₀ target body Q Rl I fp wr n P Md St m news
  intro hR W hlive hLf hwr hnw hst F N
  intro PK J
  intro h0 step rest hE
  have hLw : env.locals ∉ wr := fun h => hLf (W.sub _ h)
  have old : ∀ b o, h₀.get? b = some o → b ∉ wr := fun b o e hb => by rw [hwr b hb] at e; cases e
  refine ⟨codeAny_forLoop_any
    (fun k s' => ∃ m' news' i, Rl s s' ∧ St i s'.heap ∧ Fr h₀ env.locals s'.heap m' ∧ News h₀ env.locals s'.heap news' ∧ (∀ p ∈ news', p.1 ∉ wr) ∧ J i m' news' ∧ i ≤ n ∧ k = n + 1 - i) ?_ (n + 1)
    ⟨m, news, 0, hR.refl s, hst, F, N, hnw, h0, Nat.zero_le _, rfl⟩⟩
  intro k s' z1q
  obtain ⟨m', news', i, hrl, hst', F', N', hnw', hJ, hi, rfl⟩ := z1q
  have next : ∀ h₁ : Heap, (∀ b o, b ∉ wr → s'.heap.get? b = some o → h₁.get? b = some o) → Fr h₀ env.locals h₁ m' ∧ News h₀ env.locals h₁ news' := fun h₁ hk₁ =>
    ⟨⟨F'.ns.at' fun o e => hk₁ _ o hLw e, fun b o e => hk₁ b o (old b o e) (F'.keep b o e), F'.above⟩, fun p hp => ⟨hk₁ _ _ (hnw' p hp) (N' p hp).1, (N' p hp).2⟩⟩
  by_cases hlt : i < n
  · refine W.item i _ _ _ hlt hst' fun v h₁ tk₁ hMd hk₁ => ?_
    refine W.go i v _ _ _ hMd fun h₂ hP hst₂ hk₂ => ?_
    obtain ⟨F₂, N₂⟩ := next h₂ fun b o hb x => hk₂ b o hb (hk₁ b o hb x)
    have Nown : News h₀ env.locals h₂ (PyProof.Rows.ownOf h₀ fp h₂) := news_ownOf hLf
    refine wpAny_passesOwn hE (wpAny_mono (step i v m' news' _ (PyProof.Rows.ownOf h₀ fp h₂) hlt hP hJ hnw' ownOf_sub (fun b hb => let ⟨o, e⟩ := hlive _ _ hst₂ b hb; ⟨o, mem_ownOf (W.sub b hb) (hwr b hb) e⟩) hst₂ (hR.trans hrl (hR.step _ h₂ tk₁)) F₂ (N₂.append Nown)) (fun _ s₂ h₂' => wpAny_passesOwn hE (wpAny_mono h₂' (fun f s₃ h₃ => ?_) fun _ _ e => e)) fun _ _ e => e)
    have goOn : StepN Rl h₀ env.locals wr (PyProof.Rows.ownOf h₀ fp h₂) (J (i + 1)) s s₃ → ∃ m, m < n + 1 - i ∧ ∃ m' news' i, Rl s s₃ ∧ St i s₃.heap ∧ Fr h₀ env.locals s₃.heap m' ∧ News h₀ env.locals s₃.heap news' ∧ (∀ p ∈ news', p.1 ∉ wr) ∧ J i m' news' ∧ i ≤ n ∧ m = n + 1 - i := by
      intro z2q
      obtain ⟨m₂, news₂, hr₃, F₃, N₃, ha₃, hJ₃⟩ := z2q
      refine ⟨n + 1 - (i + 1), Nat.sub_succ_lt_self _ _ (Nat.lt_succ_of_lt hlt), m₂, news₂, i + 1, hr₃, ?_, F₃, fun p hp => N₃ p (List.mem_append_left _ hp), ha₃, hJ₃, hlt, rfl⟩
      refine W.frame _ _ _ hst₂ fun b hb o e => ?_
      cases hn : h₀.get? b with
      | some o₀ =>
        have : o₀ = o := by have q := F₂.keep b o₀ hn; rw [e] at q; exact (Option.some.inj q).symm
        exact this ▸ F₃.keep b o₀ hn
      | none => exact (N₃ _ (List.mem_append_right _ (mem_ownOf hb hn e))).1
    cases h₃ with
    | ret h => exact h
    | brk h => exact h
    | cont h => exact goOn h
    | next h => exact goOn h
  · have hin : i = n := by omega
    subst hin
    refine wpAny_passesOwn hE (W.done _ _ _ hst' fun h₁ tk₁ hk₁ => wpAny_execs_nil ?_)
    obtain ⟨F₁, N₁⟩ := next h₁ hk₁
    exact rest m' news' _ (hR.trans hrl (hR.step _ h₁ tk₁)) F₁ N₁ hnw' hJ
structure GoList (prog : Program) (w : World) (A : Around) (target : Expr) (v : Value) : Prop where
  go : ∀ (I l : Addr) (i : Nat) (s : Shared) (Q : Unit → Shared → Prop) (E : Value → Shared → Prop), s.heap.IsListIter I l i → Q () s → wpAny (model prog w) A (letOwnedTupleGo target (.ref I) v) Q E s
theorem GoList.name {x : Str} {p : Pos} {v : Value} : GoList prog w A (.Name x p) v := ⟨fun _ _ _ _ _ _ _ h => wpAny_of_eq rfl h⟩
theorem GoList.tuple {elts : List Expr} {k : Nat} {p : Pos} {T : Addr} : GoList prog w A (.Tuple elts k p) (.ref T) := ⟨fun _ _ _ _ _ _ hi h => wpAny_letOwnedTupleGo_listiter hi h⟩
theorem turnsList (hh : A.handled = none) {I l : Addr} (hne : l ≠ I) {items : Array Value} (hgo : ∀ v ∈ items, GoList prog w A target v) :
    KTurns prog w A target I [I, l] [I] items.size (fun i v _ => items[i]? = some v) (fun i v h => items[i]? = some v ∧ h.IsListIter I l (i + 1) ∧ h.IsList l items) (fun i h => h.IsListIter I l i ∧ h.IsList l items) where
  sub := fun b hb => by simp at hb; simp [hb]
  frame := fun _ _ _ st hk => ⟨st.1.at fun o e => hk I (by walk_at "INS") o e, st.2.at fun o e => hk l (by walk_at "INS") o e⟩
  item := fun i s Q E hi st hQ => by
    refine wpAny_pyNext_list_item st.1 st.2 (x := items[i]) (Array.getElem?_eq_getElem hi) fun h' hit' hs' => ?_
    exact hQ _ h' s.toks ⟨Array.getElem?_eq_getElem hi, hit', st.2.extBut hs'.extBut hne⟩ fun b o hb e => hs'.extBut b o (fun h => hb (by simp [h])) e
  go := fun i v s Q E hm hQ => (hgo v (Array.mem_of_getElem? hm.1)).go I l (i + 1) s Q E hm.2.1 (hQ s.heap hm.1 hm.2 fun _ _ _ e => e)
  done := fun s Q E st hQ => wpAny_pyNext_list_end hh st.1 st.2 (by walk_at "INS") fun h' he' => hQ h' s.toks fun b o hb e => he' b o (fun h => hb (by simp [h])) e
theorem loop_list {l : Addr} {items : Array Value} {m : Str → Option Value} {news : Led} (hR : RestOk Rl) (J : Nat → (Str → Option Value) → Led → Prop) (hh : A.handled = none) (F : Fr h₀ env.locals s.heap m) (N : News h₀ env.locals s.heap news) (hl : s.heap.IsList l items) (hlL : l ≠ env.locals)
    (hgo : ∀ v ∈ items, GoList prog w A target v) (h0 : J 0 m news)
    (step : ∀ i v m₁ news₁ s₁ own I, items[i]? = some v → J i m₁ news₁ → (∀ p ∈ news₁, p.1 ≠ I) → s.heap.objs.size ≤ I → (∀ p ∈ own, p.1 = l ∨ s.heap.objs.size ≤ p.1) → (∃ o, (I, o) ∈ own) → Rl s s₁ →
      Fr h₀ env.locals s₁.heap m₁ → News h₀ env.locals s₁.heap (news₁ ++ own) → s₁.heap.IsList l items →
      wpAny (model prog w) A (assign target env v) (fun _ s₂ => wpAny (model prog w) A (execs body env) (TurnN Rl h₀ env.locals [I] own (J (i + 1)) s Q) E s₂) E s₁)
    (rest : ∀ m' news' s', Rl s s' → Fr h₀ env.locals s'.heap m' → News h₀ env.locals s'.heap news' → J items.size m' news' → Q .next s')
    (hE : PassesOwn (model prog w) A env E := by passes_own) :
    wpAny (model prog w) A (pyIter (.ref l)) (ForBody prog w A target body env Q E) E s := by
  refine wpAny_pyIter_list hl ?_
  have hlt : l < s.heap.objs.size := let ⟨_, e, _⟩ := hl; Heap.lt_size e
  have hLs : env.locals < s.heap.objs.size := F.ns.lt
  have hk : ∀ b o, s.heap.get? b = some o → (s.heap.push { cls := .type "list_iterator", data := .fields #[.ref l, .int 0 0] }).get? b = some o := fun b o e => Heap.get?_push_of_some _ e
  refine ForBody.mk (loopN (s := { s with heap := s.heap.push { cls := .type "list_iterator", data := .fields #[.ref l, .int 0 0] } }) hR (turnsList hh (Nat.ne_of_lt hlt) hgo) (fun i h st b hb => by
    obtain rfl : b = s.heap.objs.size := by simpa using hb
    obtain ⟨o, e, _⟩ := st.1
    exact ⟨o, e⟩) ?_ ?_ ?_ ?_ (F.kept hk) (N.keepsAll hk) J h0 ?_ ?_ hE).out
  · simp only [List.mem_cons, List.not_mem_nil, or_false]
    rintro (e | e)
    · exact Nat.ne_of_lt hLs e
    · exact hlL e.symm
  · intro b hb
    simp only [List.mem_cons, List.not_mem_nil, or_false] at hb
    subst hb
    cases e : h₀.get? s.heap.objs.size with
    | none => rfl
    | some o => exact absurd (Heap.lt_size (F.keep _ _ e)) (Nat.lt_irrefl _)
  · intro p hp hb
    simp only [List.mem_cons, List.not_mem_nil, or_false] at hb
    exact Nat.ne_of_lt (Heap.lt_size (N p hp).1) hb
  · exact ⟨⟨_, Heap.get?_push_size _ rfl, rfl, rfl⟩, hl.at fun o e => hk l o e⟩
  · intro i v m₁ news₁ s₁ own hi hP hJ hnw how hmo hst hr F₁ N₁
    refine wpAny_mono (step i v m₁ news₁ s₁ own _ hP hJ (fun p hp e => hnw p hp (by simp [e])) (Nat.le_refl _) (fun p hp => by
      have hb' : p.1 = s.heap.objs.size ∨ p.1 = l := by simpa using how p hp
      rcases hb' with e | e
      · exact .inr (Nat.le_of_eq e.symm)
      · exact .inl e) (hmo _ (by walk_at "INS")) (hR.trans (hR.step _ _ _) hr) F₁ N₁ hst.2) (fun _ s₂ h₂ => wpAny_mono h₂ (fun f s₃ h₃ => ?_) fun _ _ e => e) fun _ _ e => e
    have goOn : StepN Rl h₀ env.locals [s.heap.objs.size] own (J (i + 1)) s s₃ → StepN Rl h₀ env.locals [s.heap.objs.size] own (J (i + 1)) { s with heap := s.heap.push { cls := .type "list_iterator", data := .fields #[.ref l, .int 0 0] } } s₃ := by
      intro z3q
      obtain ⟨m₂, news₂, hr₃, r⟩ := z3q
      exact ⟨m₂, news₂, hR.back _ s.toks hr₃, r⟩
    cases h₃ with
    | ret h => exact .ret h
    | brk h => exact .brk h
    | cont h => exact .cont (goOn h)
    | next h => exact .next (goOn h)
  · intro m' news' s' hr F' N' _ hJ
    exact rest m' news' s' (hR.trans (hR.step _ _ _) hr) F' N' hJ
theorem ht_mk {s : Shared} {h : Heap} {tk : Nat} : HT s { s with heap := h, toks := tk } := ⟨h, tk, rfl⟩
theorem loop_listH {l : Addr} {items : Array Value} {m : Str → Option Value} {news : Led} (J : Nat → (Str → Option Value) → Led → Prop) (hh : A.handled = none) (F : Fr h₀ env.locals s.heap m) (N : News h₀ env.locals s.heap news) (hl : s.heap.IsList l items) (hlL : l ≠ env.locals)
    (hgo : ∀ v ∈ items, GoList prog w A target v) (h0 : J 0 m news)
    (step : ∀ i v m₁ news₁ h₁ tk₁ own I, items[i]? = some v → J i m₁ news₁ → (∀ p ∈ news₁, p.1 ≠ I) → s.heap.objs.size ≤ I → (∀ p ∈ own, p.1 = l ∨ s.heap.objs.size ≤ p.1) → (∃ o, (I, o) ∈ own) →
      Fr h₀ env.locals h₁ m₁ → News h₀ env.locals h₁ (news₁ ++ own) → h₁.IsList l items →
      wpAny (model prog w) A (assign target env v) (fun _ s₂ => wpAny (model prog w) A (execs body env) (TurnN HT h₀ env.locals [I] own (J (i + 1)) s Q) E s₂) E { s with heap := h₁, toks := tk₁ })
    (rest : ∀ m' news' h' tk', Fr h₀ env.locals h' m' → News h₀ env.locals h' news' → J items.size m' news' → Q .next { s with heap := h', toks := tk' })
    (hE : PassesOwn (model prog w) A env E := by passes_own) :
    wpAny (model prog w) A (pyIter (.ref l)) (ForBody prog w A target body env Q E) E s :=
  loop_list restHT J hh F N hl hlL hgo h0 (fun i v m₁ n₁ s₁ own I a b c d e f r F N g => let ⟨h, tk, q⟩ := r; by subst q; exact step i v m₁ n₁ h tk own I a b c d e f F N g) (fun m' n' s' r F N j => let ⟨h, tk, q⟩ := r; by subst q; exact rest m' n' h tk F N j) hE
theorem lt_ne {a I : Nat} (k : Nat) (h : a < I) : a ≠ I + k := Nat.ne_of_lt (Nat.lt_of_lt_of_le h (Nat.le_add_right I k))
theorem fr_new {L b : Addr} {h : Heap} {m : Str → Option Value} (F : Fr h₀ L h m) (hb : h.objs.size ≤ b) : h₀.get? b = none := by
  cases e : h₀.get? b with
  | none => rfl
  | some o => exact absurd (Heap.lt_size (F.keep _ _ e)) (Nat.not_lt.mpr hb)
theorem TurnN.back {wr : List Addr} {own : Led} {X : (Str → Option Value) → Led → Prop} {h : Heap} {tk : Nat} {f : Flow} {s₃ : Shared} {L : Addr} (hR : RestOk Rl) (h₃ : TurnN Rl h₀ L wr own X s Q f s₃) : TurnN Rl h₀ L wr own X { s with heap := h, toks := tk } Q f s₃ := by
  have goOn : ∀ {s₃}, StepN Rl h₀ L wr own X s s₃ → StepN Rl h₀ L wr own X { s with heap := h, toks := tk } s₃ := by
    intro s₃ z4q
    obtain ⟨m₂, news₂, hr₃, r⟩ := z4q
    exact ⟨m₂, news₂, hR.back _ tk hr₃, r⟩
  cases h₃ with
  | ret h => exact .ret h
  | brk h => exact .brk h
  | cont h => exact .cont (goOn h)
  | next h => exact .next (goOn h)
theorem loop_enum {elts : List Expr} {k : Nat} {pos : Pos} {l : Addr} {items : Array Value} {m : Str → Option Value} {news : Led} (hR : RestOk Rl) (J : Nat → (Str → Option Value) → Led → Prop) (hh : A.handled = none) (F : Fr h₀ env.locals s.heap m) (N : News h₀ env.locals s.heap news) (hl : s.heap.IsList l items) (hlL : l ≠ env.locals)
    (h0 : J 0 m news)
    (step : ∀ i x t T m₁ news₁ s₁ own wr, items[i]? = some x → J i m₁ news₁ → (∀ p ∈ news₁, p.1 ∉ wr) → (∀ b ∈ wr, s.heap.objs.size ≤ b) → (∀ p ∈ own, p.1 = l ∨ s.heap.objs.size ≤ p.1) → (∀ b ∈ wr, ∃ o, (b, o) ∈ own) → Rl s s₁ →
      Fr h₀ env.locals s₁.heap m₁ → News h₀ env.locals s₁.heap (news₁ ++ own) → s₁.heap.IsList l items → s₁.heap.IsTuple T #[.int (i : Int) t, x] →
      wpAny (model prog w) A (assign (.Tuple elts k pos) env (.ref T)) (fun _ s₂ => wpAny (model prog w) A (execs body env) (TurnN Rl h₀ env.locals wr own (J (i + 1)) s Q) E s₂) E s₁)
    (rest : ∀ m' news' s', Rl s s' → Fr h₀ env.locals s'.heap m' → News h₀ env.locals s'.heap news' → J items.size m' news' → Q .next s')
    (hE : PassesOwn (model prog w) A env E := by passes_own) :
    wpAny (model prog w) A (call (.type "enumerate") [.ref l]) (fun xv s₁ => wpAny (model prog w) A (pyIter xv) (ForBody prog w A (.Tuple elts k pos) body env Q E) E s₁) E s := by
  have hlt : l < s.heap.objs.size := let ⟨_, e, _⟩ := hl; Heap.lt_size e
  have hLs : env.locals < s.heap.objs.size := F.ns.lt
  refine call_enumerate_list hl fun h' hE' hI hsz hk => ?_
  refine wpAny_pyIter_enum hE' ?_
  refine ForBody.mk (loopN (s := { s with heap := h' }) hR (KTurns.ofWalksU (WalksT.enumerate hh (s.heap.objs.size + 1) s.heap.objs.size l (Nat.succ_ne_self _) (lt_ne 1 hlt) (Nat.ne_of_lt hlt) items).toU) (fun i h st b hb => by
    have hb' : b = s.heap.objs.size + 1 ∨ b = s.heap.objs.size := by simpa using hb
    rcases hb' with rfl | rfl
    · obtain ⟨⟨_, e⟩, _⟩ := st; exact ⟨_, e⟩
    · obtain ⟨_, ⟨o, e, _⟩, _⟩ := st; exact ⟨o, e⟩) ?_ ?_ ?_ ?_ (F.kept hk) (N.keepsAll hk) J h0 ?_ ?_ hE).out
  · intro hI'
    have hb' : env.locals = s.heap.objs.size + 1 ∨ env.locals = s.heap.objs.size ∨ env.locals = l := by simpa using hI'
    rcases hb' with e | e | e
    · exact lt_ne 1 hLs e
    · exact Nat.ne_of_lt hLs e
    · exact hlL e.symm
  · intro b hb
    have hb' : b = s.heap.objs.size + 1 ∨ b = s.heap.objs.size := by simpa using hb
    rcases hb' with rfl | rfl
    · exact fr_new F (Nat.le_add_right _ _)
    · exact fr_new F (Nat.le_refl _)
  · intro p hp hI'
    have hb' : p.1 = s.heap.objs.size + 1 ∨ p.1 = s.heap.objs.size := by simpa using hI'
    have hlp := Heap.lt_size (N p hp).1
    rcases hb' with e | e
    · exact lt_ne 1 hlp e
    · exact Nat.ne_of_lt hlp e
  · exact ⟨⟨.none, hE'⟩, hI, hl.at fun o e => hk l o e⟩
  · intro i v m₁ news₁ s₁ own hi hP hJ hnw how hmo hst hr F₁ N₁
    obtain ⟨T, vals, rfl, ⟨t, x, hx, rfl⟩, hT⟩ := hP
    refine wpAny_mono (step i x t T m₁ news₁ s₁ own _ hx hJ hnw (fun b hb => ?_) (fun p hp => by
      have hb' : p.1 = s.heap.objs.size + 1 ∨ p.1 = s.heap.objs.size ∨ p.1 = l := by simpa using how p hp
      rcases hb' with e | e | e
      · exact .inr (e ▸ Nat.le_add_right _ _)
      · exact .inr (Nat.le_of_eq e.symm)
      · exact .inl e) hmo (hR.trans (hR.step _ _ _) hr) F₁ N₁ hst.2.2 hT) (fun _ s₂ h₂ => wpAny_mono h₂ (fun f s₃ h₃ => h₃.back hR (tk := s.toks)) fun _ _ e => e) fun _ _ e => e
    have hb' : b = s.heap.objs.size + 1 ∨ b = s.heap.objs.size := by simpa using hb
    rcases hb' with rfl | rfl
    · exact Nat.le_add_right _ _
    · exact Nat.le_refl _
  · intro m' news' s' hr F' N' _ hJ
    exact rest m' news' s' (hR.trans (hR.step _ _ _) hr) F' N' hJ
theorem loop_zip {elts : List Expr} {k : Nat} {pos : Pos} {l1 l2 : Addr} {xs ys : Array Value} {m : Str → Option Value} {news : Led} (hR : RestOk Rl) (J : Nat → (Str → Option Value) → Led → Prop) (hh : A.handled = none) (F : Fr h₀ env.locals s.heap m) (N : News h₀ env.locals s.heap news) (hl1 : s.heap.IsList l1 xs) (hl2 : s.heap.IsList l2 ys) (hlL1 : l1 ≠ env.locals) (hlL2 : l2 ≠ env.locals)
    (h0 : J 0 m news)
    (step : ∀ i x y T m₁ news₁ s₁ own wr, xs[i]? = some x → ys[i]? = some y → J i m₁ news₁ → (∀ p ∈ news₁, p.1 ∉ wr) → (∀ b ∈ wr, s.heap.objs.size ≤ b) → (∀ p ∈ own, p.1 = l1 ∨ p.1 = l2 ∨ s.heap.objs.size ≤ p.1) → (∀ b ∈ wr, ∃ o, (b, o) ∈ own) → Rl s s₁ →
      Fr h₀ env.locals s₁.heap m₁ → News h₀ env.locals s₁.heap (news₁ ++ own) → s₁.heap.IsTuple T #[x, y] →
      wpAny (model prog w) A (assign (.Tuple elts k pos) env (.ref T)) (fun _ s₂ => wpAny (model prog w) A (execs body env) (TurnN Rl h₀ env.locals wr own (J (i + 1)) s Q) E s₂) E s₁)
    (rest : ∀ m' news' s', Rl s s' → Fr h₀ env.locals s'.heap m' → News h₀ env.locals s'.heap news' → J (min xs.size ys.size) m' news' → Q .next s')
    (hE : PassesOwn (model prog w) A env E := by passes_own) :
    wpAny (model prog w) A (call (.type "zip") [.ref l1, .ref l2]) (fun xv s₁ => wpAny (model prog w) A (pyIter xv) (ForBody prog w A (.Tuple elts k pos) body env Q E) E s₁) E s := by
  revert prog w A E s env h₀ body Q Rl elts k pos l1 l2 xs ys m news J
  intro PK prog w A E s env h₀ body Q Rl elts k pos l1 l2 xs ys m news
  intro hR
  intro PK J
  intro hh F N hl1 hl2 hlL1 hlL2 h0 step rest hE
  have hlt1 : l1 < s.heap.objs.size := let ⟨_, e, _⟩ := hl1; Heap.lt_size e
  have hlt2 : l2 < s.heap.objs.size := let ⟨_, e, _⟩ := hl2; Heap.lt_size e
  have hLs : env.locals < s.heap.objs.size := F.ns.lt
  have D : ZipApart (s.heap.objs.size + 4) (s.heap.objs.size + 2) (s.heap.objs.size + 3) s.heap.objs.size (s.heap.objs.size + 1) l1 l2 := ktu_apart _ _ _ hlt1 hlt2
  refine call_zip_2 hl1 hl2 fun h' hz hTI hTO hi1 hi2 hsz hk => ?_
  refine wpAny_pyIter_zip hz ?_
  have four : ∀ b, b ∈ [s.heap.objs.size + 4, s.heap.objs.size + 3, s.heap.objs.size, s.heap.objs.size + 1] → s.heap.objs.size ≤ b := by
    intro b hb
    have hb' : b = s.heap.objs.size + 4 ∨ b = s.heap.objs.size + 3 ∨ b = s.heap.objs.size ∨ b = s.heap.objs.size + 1 := by simpa using hb
    rcases hb' with rfl | rfl | rfl | rfl
    · exact Nat.le_add_right _ _
    · exact Nat.le_add_right _ _
    · exact Nat.le_refl _
    · exact Nat.le_add_right _ _
  refine ForBody.mk (loopN (s := { s with heap := h' }) hR (KTurns.ofWalksU (WalksT.zip2 hh _ _ _ _ _ _ _ D xs ys).toU) (fun i h st b hb => by
    have hb' : b = s.heap.objs.size + 4 ∨ b = s.heap.objs.size + 3 ∨ b = s.heap.objs.size ∨ b = s.heap.objs.size + 1 := by simpa using hb
    obtain ⟨z1, _, ⟨_, _, z2⟩, ⟨o1, z3, _⟩, ⟨o2, z4, _⟩, _⟩ := st
    rcases hb' with rfl | rfl | rfl | rfl
    · exact ⟨_, z1⟩
    · exact ⟨_, z2⟩
    · exact ⟨_, z3⟩
    · exact ⟨_, z4⟩) ?_ ?_ ?_ ?_ (F.kept hk) (N.keepsAll hk) J h0 ?_ ?_ hE).out
  · intro hI'
    have hb' : env.locals = s.heap.objs.size + 4 ∨ env.locals = s.heap.objs.size + 2 ∨ env.locals = s.heap.objs.size + 3 ∨ env.locals = s.heap.objs.size ∨ env.locals = s.heap.objs.size + 1 ∨ env.locals = l1 ∨ env.locals = l2 := by simpa using hI'
    rcases hb' with e | e | e | e | e | e | e
    · exact lt_ne 4 hLs e
    · exact lt_ne 2 hLs e
    · exact lt_ne 3 hLs e
    · exact Nat.ne_of_lt hLs e
    · exact lt_ne 1 hLs e
    · exact hlL1 e.symm
    · exact hlL2 e.symm
  · exact fun b hb => fr_new F (four b hb)
  · intro p hp hI'
    exact Nat.not_lt.mpr (four _ hI') (Heap.lt_size (N p hp).1)
  · exact ⟨hz, hTI, ⟨_, _, hTO⟩, hi1, hi2, hl1.at fun o e => hk l1 o e, hl2.at fun o e => hk l2 o e⟩
  · intro i v m₁ news₁ s₁ own hi hP hJ hnw how hmo hst hr F₁ N₁
    obtain ⟨T, vals, rfl, ⟨x, y, hx, hy, rfl⟩, hT⟩ := hP
    exact wpAny_mono (step i x y T m₁ news₁ s₁ own _ hx hy hJ hnw four (fun p hp => by
      have hb' : p.1 = s.heap.objs.size + 4 ∨ p.1 = s.heap.objs.size + 2 ∨ p.1 = s.heap.objs.size + 3 ∨ p.1 = s.heap.objs.size ∨ p.1 = s.heap.objs.size + 1 ∨ p.1 = l1 ∨ p.1 = l2 := by simpa using how p hp
      rcases hb' with e | e | e | e | e | e | e
      · exact .inr (.inr (e ▸ Nat.le_add_right _ _))
      · exact .inr (.inr (e ▸ Nat.le_add_right _ _))
      · exact .inr (.inr (e ▸ Nat.le_add_right _ _))
      · exact .inr (.inr (Nat.le_of_eq e.symm))
      · exact .inr (.inr (e ▸ Nat.le_add_right _ _))
      · exact .inl e
      · exact .inr (.inl e)) hmo (hR.trans (hR.step _ _ _) hr) F₁ N₁ hT) (fun _ s₂ h₂ => wpAny_mono h₂ (fun f s₃ h₃ => h₃.back hR (tk := s.toks)) fun _ _ e => e) fun _ _ e => e
  · intro m' news' s' hr F' N' _ hJ
    exact rest m' news' s' (hR.trans (hR.step _ _ _) hr) F' N' hJ
theorem loop_rangeAt {x : Str} {px : Pos} {r : Addr} {a b : Int} {t u v₀ : Tok} {m : Str → Option Value} {news : Led} (hR : RestOk Rl) (J : Nat → (Str → Option Value) → Led → Prop) (hh : A.handled = none) (F : Fr h₀ env.locals s.heap m) (N : News h₀ env.locals s.heap news) (hr : IsRange s.heap r a b 1 t u v₀)
    (ha : -1000000 ≤ a) (hab : a ≤ b) (hb : b ≤ 1000000) (h0 : J 0 m news)
    (step : ∀ (i : Nat) t m₁ news₁ s₁ own I, (i : Int) < b - a → J i m₁ news₁ → (∀ p ∈ news₁, p.1 ≠ I) → s.heap.objs.size ≤ I → (∀ p ∈ own, s.heap.objs.size ≤ p.1) → (∃ o, (I, o) ∈ own) → Rl s s₁ →
      Fr h₀ env.locals s₁.heap m₁ → News h₀ env.locals s₁.heap (news₁ ++ own) →
      wpAny (model prog w) A (assign (.Name x px) env (.int (a + i) t)) (fun _ s₂ => wpAny (model prog w) A (execs body env) (TurnN Rl h₀ env.locals [I] own (J (i + 1)) s Q) E s₂) E s₁)
    (rest : ∀ m' news' s', Rl s s' → Fr h₀ env.locals s'.heap m' → News h₀ env.locals s'.heap news' → J (b - a).toNat m' news' → Q .next s')
    (hE : PassesOwn (model prog w) A env E) :
    wpAny (model prog w) A (pyIter (.ref r)) (ForBody prog w A (.Name x px) body env Q E) E s := by
  refine wpAny_pyIter_range hr (small_one (by omega) (by omega) (by omega) (by omega)) ?_
  have hLs : env.locals < s.heap.objs.size := F.ns.lt
  have hk : ∀ b' o, s.heap.get? b' = some o → (s.heap.push { cls := .type "range_iterator", data := .fields #[rawInt a, rawInt (Builtin.Range.rangeSize a b 1), rawInt 1] }).get? b' = some o := fun b' o e => Heap.get?_push_of_some _ e
  have hsz : Builtin.Range.rangeSize a b 1 = b - a := by rw [rangeSize_one]; split <;> omega
  refine ForBody.mk (loopN (s := { s with heap := _, toks := _ }) hR (KTurns.ofWalks (Walks.range hh s.heap.objs.size a 1 (b - a).toNat) fun _ _ _ _ _ _ h => wpAny_of_eq rfl h) (fun i h st b' hb' => by
    obtain rfl : b' = s.heap.objs.size := by simpa using hb'
    exact ⟨_, st⟩) ?_ ?_ ?_ ?_ (F.kept hk) (N.keepsAll hk) J h0 ?_ ?_ hE).out
  · simp only [List.mem_cons, List.not_mem_nil, or_false]
    exact Nat.ne_of_lt hLs
  · intro b' hb'
    simp only [List.mem_cons, List.not_mem_nil, or_false] at hb'
    exact fr_new F (Nat.le_of_eq hb'.symm)
  · intro p hp hb'
    simp only [List.mem_cons, List.not_mem_nil, or_false] at hb'
    exact Nat.ne_of_lt (Heap.lt_size (N p hp).1) hb'
  · have e1 : (a + ((0 : Nat) : Int) * 1) = a := by simp
    have e2 : ((((b - a).toNat : Nat) : Int) - ((0 : Nat) : Int)) = Builtin.Range.rangeSize a b 1 := by rw [hsz]; omega
    rw [e1, e2]
    exact Heap.get?_push_size _ rfl
  · intro i v m₁ news₁ s₁ own hi hP hJ hnw how hmo hst hr' F₁ N₁
    obtain ⟨t', rfl⟩ := hP
    rw [Int.mul_one]
    refine wpAny_mono (step i t' m₁ news₁ s₁ own _ (by omega) hJ (fun p hp e => hnw p hp (by simp [e])) (Nat.le_refl _) (fun p hp => ?_) (hmo _ (by walk_at "INS")) (hR.trans (hR.step _ _ _) hr') F₁ N₁) (fun _ s₂ h₂ => wpAny_mono h₂ (fun f s₃ h₃ => h₃.back hR) fun _ _ e => e) fun _ _ e => e
    have hb' : p.1 = s.heap.objs.size := by simpa using how p hp
    exact Nat.le_of_eq hb'.symm
  · intro m' news' s' hr' F' N' _ hJ
    exact rest m' news' s' (hR.trans (hR.step _ _ _) hr') F' N' hJ
theorem loop_range1 {x : Str} {px : Pos} {b : Int} {u : Tok} {m : Str → Option Value} {news : Led} (hR : RestOk Rl) (J : Nat → (Str → Option Value) → Led → Prop) (hh : A.handled = none) (F : Fr h₀ env.locals s.heap m) (N : News h₀ env.locals s.heap news)
    (hab : 0 ≤ b) (hb : b ≤ 1000000) (h0 : J 0 m news)
    (step : ∀ (i : Nat) t m₁ news₁ s₁ own I, (i : Int) < b → J i m₁ news₁ → (∀ p ∈ news₁, p.1 ≠ I) → s.heap.objs.size ≤ I → (∀ p ∈ own, s.heap.objs.size ≤ p.1) → (∃ o, (I, o) ∈ own) → Rl s s₁ →
      Fr h₀ env.locals s₁.heap m₁ → News h₀ env.locals s₁.heap (news₁ ++ own) →
      wpAny (model prog w) A (assign (.Name x px) env (.int i t)) (fun _ s₂ => wpAny (model prog w) A (execs body env) (TurnN Rl h₀ env.locals [I] own (J (i + 1)) s Q) E s₂) E s₁)
    (rest : ∀ m' news' s', Rl s s' → Fr h₀ env.locals s'.heap m' → News h₀ env.locals s'.heap news' → J b.toNat m' news' → Q .next s')
    (hE : PassesOwn (model prog w) A env E := by passes_own) :
    wpAny (model prog w) A (call (.type "range") [.int b u]) (fun xv s₁ => wpAny (model prog w) A (pyIter xv) (ForBody prog w A (.Name x px) body env Q E) E s₁) E s := by
  refine call_range_1 ?_
  have hk : ∀ b' o, s.heap.get? b' = some o → (s.heap.push { cls := .type "range", data := .fields #[.int 0 s.toks, .int b u, .int 1 (s.toks + 1)] }).get? b' = some o := fun b' o e => Heap.get?_push_of_some _ e
  refine loop_rangeAt (s := { s with heap := _, toks := _ }) hR J hh (F.kept hk) (N.keepsAll hk) (IsRange.new ..) (by decide) hab hb h0 ?_ ?_ hE
  · intro i t m₁ news₁ s₁ own I hi hJ hnw hI how hmo hr F₁ N₁
    rw [Int.zero_add]
    have hs : s.heap.objs.size ≤ (s.heap.push { cls := .type "range", data := .fields #[.int 0 s.toks, .int b u, .int 1 (s.toks + 1)] }).objs.size := by rw [Heap.size_push]; exact Nat.le_succ _
    exact wpAny_mono (step i t m₁ news₁ s₁ own I (by omega) hJ hnw (Nat.le_trans hs hI) (fun p hp => Nat.le_trans hs (how p hp)) hmo (hR.trans (hR.step _ _ _) hr) F₁ N₁) (fun _ s₂ h₂ => wpAny_mono h₂ (fun f s₃ h₃ => h₃.back hR) fun _ _ e => e) fun _ _ e => e
  · intro m' news' s' hr' F' N' hJ
    rw [Int.sub_zero] at hJ
    exact rest m' news' s' (hR.trans (hR.step _ _ _) hr') F' N' hJ
theorem loop_range2 {x : Str} {px : Pos} {a b : Int} {t u : Tok} {m : Str → Option Value} {news : Led} (hR : RestOk Rl) (J : Nat → (Str → Option Value) → Led → Prop) (hh : A.handled = none) (F : Fr h₀ env.locals s.heap m) (N : News h₀ env.locals s.heap news)
    (ha : -1000000 ≤ a) (hab : a ≤ b) (hb : b ≤ 1000000) (h0 : J 0 m news)
    (step : ∀ (i : Nat) t m₁ news₁ s₁ own I, (i : Int) < b - a → J i m₁ news₁ → (∀ p ∈ news₁, p.1 ≠ I) → s.heap.objs.size ≤ I → (∀ p ∈ own, s.heap.objs.size ≤ p.1) → (∃ o, (I, o) ∈ own) → Rl s s₁ →
      Fr h₀ env.locals s₁.heap m₁ → News h₀ env.locals s₁.heap (news₁ ++ own) →
      wpAny (model prog w) A (assign (.Name x px) env (.int (a + i) t)) (fun _ s₂ => wpAny (model prog w) A (execs body env) (TurnN Rl h₀ env.locals [I] own (J (i + 1)) s Q) E s₂) E s₁)
    (rest : ∀ m' news' s', Rl s s' → Fr h₀ env.locals s'.heap m' → News h₀ env.locals s'.heap news' → J (b - a).toNat m' news' → Q .next s')
    (hE : PassesOwn (model prog w) A env E := by passes_own) :
    wpAny (model prog w) A (call (.type "range") [.int a t, .int b u]) (fun xv s₁ => wpAny (model prog w) A (pyIter xv) (ForBody prog w A (.Name x px) body env Q E) E s₁) E s := by
  refine call_range_2 ?_
  have hk : ∀ b' o, s.heap.get? b' = some o → (s.heap.push { cls := .type "range", data := .fields #[.int a t, .int b u, .int 1 s.toks] }).get? b' = some o := fun b' o e => Heap.get?_push_of_some _ e
  refine loop_rangeAt (s := { s with heap := _, toks := _ }) hR J hh (F.kept hk) (N.keepsAll hk) (IsRange.new ..) ha hab hb h0 ?_ ?_ hE
  · intro i t' m₁ news₁ s₁ own I hi hJ hnw hI how hmo hr F₁ N₁
    have hs : s.heap.objs.size ≤ (s.heap.push { cls := .type "range", data := .fields #[.int a t, .int b u, .int 1 s.toks] }).objs.size := by rw [Heap.size_push]; exact Nat.le_succ _
    exact wpAny_mono (step i t' m₁ news₁ s₁ own I hi hJ hnw (Nat.le_trans hs hI) (fun p hp => Nat.le_trans hs (how p hp)) hmo (hR.trans (hR.step _ _ _) hr) F₁ N₁) (fun _ s₂ h₂ => wpAny_mono h₂ (fun f s₃ h₃ => h₃.back hR) fun _ _ e => e) fun _ _ e => e
  · intro m' news' s' hr' F' N' hJ
    exact rest m' news' s' (hR.trans (hR.step _ _ _) hr') F' N' hJ
theorem extend_N {h₀ : Heap} {L D b : Addr} {m : Str → Option Value} {its its2 : Array Value} {n n2 : Nat} {rest : Led} {Q : Value → Shared → Prop} (F : Fr h₀ L s.heap m) (N : News h₀ L s.heap ((D, W.listOf its n) :: rest)) (hne : ∀ p ∈ rest, p.1 ≠ D) (hb : s.heap.get? b = some (W.listOf its2 n2))
    (hsz : its.size + its2.size ≤ 100000) (hQ : ∀ h' n', Fr h₀ L h' m → News h₀ L h' ((D, W.listOf (its ++ its2) n') :: rest) → Q .none { s with heap := h' }) : wpAny (model prog w) A (call (.builtin "list.extend") [.ref D, .ref b]) Q E s := by
  obtain ⟨ys⟩ := its
  obtain ⟨zs⟩ := its2
  have e : (({ toList := ys } : Array Value) ++ ({ toList := zs } : Array Value)) = (ys ++ zs).toArray := by simp
  rw [e] at hQ
  refine PyProof.Rows.extend_in (own := []) (ys := ys) (its2 := zs.toArray) (rest := rest) F N (fun _ h => nomatch h) hne hb (fun h' n' F' N' => hQ h' n' F' N') ?_
  have : ys.length + zs.length ≤ 100000 := by simpa using hsz
  unfold sizeLine
  simp
  omega
end
end SN1
section SN22
set_option maxHeartbeats 2000000
abbrev StrOks (ns : List Str) : Prop := ∀ x ∈ ns, PyData.strOk x = true
theorem tx_canLay : ∀ ns : List Str, StrOks ns → PyData.canLayAll0 (ns.map PyData.str) = true
  | [], _ => rfl
  | a :: r, h => by simp [PyData.canLayAll0, PyData.canLay0, h a (List.mem_cons_self ..), tx_canLay r fun x hx => h x (List.mem_cons_of_mem _ hx)]
theorem tx_depth : ∀ ns : List Str, PyData.depthAll (ns.map PyData.str) = 0
  | [] => rfl
  | _ :: r => by simp [PyData.depthAll, PyData.depth, tx_depth r]
theorem tx_shaped (ns : List Str) (h : StrOks ns) : SeqAt.shaped (.list (ns.map PyData.str)) = true := by
  simp [SeqAt.shaped, PyData.canLay0, PyData.depth, tx_canLay ns h, tx_depth]
theorem tx_sameAll : ∀ ns ms : List Str, PySem.Spec.sameAll (ns.map PyData.str) (ms.map PyData.str) = decide (ns = ms)
  | [], [] => by simp [PySem.Spec.sameAll]
  | [], _ :: _ => by simp [PySem.Spec.sameAll]
  | _ :: _, [] => by simp [PySem.Spec.sameAll]
  | a :: r, b :: t => by
    simp only [List.map_cons, PySem.Spec.sameAll, PySem.Spec.same, tx_sameAll r t]
    by_cases h : a = b <;> by_cases h' : r = t <;> simp [h, h']
theorem tx_same (ns ms : List Str) : PySem.Spec.same (.list (ns.map PyData.str)) (.list (ms.map PyData.str)) = decide (ns = ms) := by
  simp only [PySem.Spec.same]; exact tx_sameAll ns ms
theorem tx_carried : ∀ ts : List (Str × Tok), CarriedAll (strValues ts) ((ts.map (·.1)).map PyData.str)
  | [] => .nil
  | (x, t) :: r => .cons (.str x t) (tx_carried r)
abbrev textsD (ns : List Str) : PyData := .list (ns.map PyData.str)
theorem txx_canLay : ∀ ns : List (List Str), (∀ l ∈ ns, StrOks l) → PyData.canLayAll0 (ns.map textsD) = true
  | [], _ => rfl
  | a :: r, h => by simp [PyData.canLayAll0, PyData.canLay0, tx_canLay a (h a (List.mem_cons_self ..)), txx_canLay r fun x hx => h x (List.mem_cons_of_mem _ hx)]
theorem txx_depth : ∀ ns : List (List Str), PyData.depthAll (ns.map textsD) ≤ 1
  | [] => by simp [PyData.depthAll]
  | a :: r => by simp [PyData.depthAll, PyData.depth, tx_depth, txx_depth r]
theorem txx_shaped (ns : List (List Str)) (h : ∀ l ∈ ns, StrOks l) : SeqAt.shaped (.list (ns.map textsD)) = true := by
  have := txx_depth ns
  simp [SeqAt.shaped, PyData.canLay0, PyData.depth, txx_canLay ns h]
  omega
theorem txx_sameAll : ∀ ns ms : List (List Str), PySem.Spec.sameAll (ns.map textsD) (ms.map textsD) = decide (ns = ms)
  | [], [] => by simp [PySem.Spec.sameAll]
  | [], _ :: _ => by simp [PySem.Spec.sameAll]
  | _ :: _, [] => by simp [PySem.Spec.sameAll]
  | a :: r, b :: t => by
    simp only [List.map_cons, PySem.Spec.sameAll, tx_same, txx_sameAll r t]
    by_cases h : a = b <;> by_cases h' : r = t <;> simp [h, h']
inductive Two {α β : Type} (R : α → β → Prop) : List α → List β → Prop
  | nil : Two R [] []
  | cons {a b l r} : R a b → Two R l r → Two R (a :: l) (b :: r)
section
variable {prog : Program} {w : World} {A : Around} {E : Value → Shared → Prop} {s : Shared} {a b : Addr} {ts us : List (Str × Tok)} {Q : Value → Shared → Prop}
theorem eq_texts (ha : s.heap.IsList a (strValues ts).toArray) (hb : s.heap.IsList b (strValues us).toArray) (o1 : StrOks (ts.map (·.1))) (o2 : StrOks (us.map (·.1))) (hu : A.units + 64 < cLine) (h : Q (.bool (decide (ts.map (·.1) = us.map (·.1)))) s) :
    wpAny (model prog w) A (compareOp .Eq (.ref a) (.ref b)) Q E s :=
  eq_dataH_same (reads_newData ha (tx_carried ts)) (reads_newData hb (tx_carried us)) (tx_shaped _ o1) (tx_shaped _ o2) hu (SeqAt.noMix_of_shape (.list .str) rfl _ _ (list_map_has fun _ => rfl) (list_map_has fun _ => rfl)) (by rw [tx_same]; exact h)
theorem ne_texts (ha : s.heap.IsList a (strValues ts).toArray) (hb : s.heap.IsList b (strValues us).toArray) (o1 : StrOks (ts.map (·.1))) (o2 : StrOks (us.map (·.1))) (hu : A.units + 64 < cLine) (h : Q (.bool (!decide (ts.map (·.1) = us.map (·.1)))) s) :
    wpAny (model prog w) A (compareOp .NotEq (.ref a) (.ref b)) Q E s :=
  ne_dataH_same (reads_newData ha (tx_carried ts)) (reads_newData hb (tx_carried us)) (tx_shaped _ o1) (tx_shaped _ o2) hu (SeqAt.noMix_of_shape (.list .str) rfl _ _ (list_map_has fun _ => rfl) (list_map_has fun _ => rfl)) (by rw [tx_same]; exact h)
theorem txx_reads {h : Heap} : ∀ {ls : List Addr} {css : List (List (Str × Tok))}, Two (fun l cs => h.IsList l (strValues cs).toArray) ls css → ∃ as, ReadsAll h (ls.map Value.ref) (css.map fun cs => textsD (cs.map (·.1))) as
  | _, _, .nil => ⟨_, .nil⟩
  | _, _, .cons hl r => let ⟨_, x⟩ := txx_reads r; ⟨_, .cons (reads_newData hl (tx_carried _)) x⟩
theorem ne_textss {la lb : List Addr} {css dss : List (List (Str × Tok))} (ha : s.heap.IsList a (la.map Value.ref).toArray) (hb : s.heap.IsList b (lb.map Value.ref).toArray) (h1 : Two (fun l cs => s.heap.IsList l (strValues cs).toArray) la css) (h2 : Two (fun l cs => s.heap.IsList l (strValues cs).toArray) lb dss)
    (o1 : ∀ l ∈ css.map (fun cs => cs.map (·.1)), StrOks l) (o2 : ∀ l ∈ dss.map (fun cs => cs.map (·.1)), StrOks l) (hu : A.units + 64 < cLine) (h : Q (.bool (!decide ((css.map fun cs => cs.map (·.1)) = dss.map fun cs => cs.map (·.1)))) s) : wpAny (model prog w) A (compareOp .NotEq (.ref a) (.ref b)) Q E s := by
  obtain ⟨oa, ea, ca, na, da⟩ := ha
  obtain ⟨ob, eb, cb, nb, db⟩ := hb
  obtain ⟨as, ra⟩ := txx_reads h1
  obtain ⟨bs, rb⟩ := txx_reads h2
  have q : ∀ l : List (List (Str × Tok)), (l.map fun cs => textsD (cs.map (·.1))) = (l.map fun cs => cs.map (·.1)).map textsD := fun l => by simp
  rw [q] at ra rb
  refine ne_dataH_same (reads_list_at ea ca da ra) (reads_list_at eb cb db rb) (txx_shaped _ o1) (txx_shaped _ o2) hu (SeqAt.noMix_of_shape (.list (.list .str)) rfl _ _ (list_map_has fun _ => list_map_has fun _ => rfl) (list_map_has fun _ => list_map_has fun _ => rfl)) ?_
  rw [show PySem.Spec.same (.list ((css.map fun cs => cs.map (·.1)).map textsD)) (.list ((dss.map fun cs => cs.map (·.1)).map textsD)) = decide ((css.map fun cs => cs.map (·.1)) = dss.map fun cs => cs.map (·.1)) from by simp only [PySem.Spec.same]; exact txx_sameAll _ _]
  exact h
theorem bl_carried : ∀ ts : List Bool, CarriedAll (ts.map Value.bool) (ts.map PyData.bool)
  | [] => .nil
  | x :: r => .cons (.bool x) (bl_carried r)
theorem bl_canLay : ∀ ns : List Bool, PyData.canLayAll0 (ns.map PyData.bool) = true
  | [] => rfl
  | _ :: r => by simp [PyData.canLayAll0, PyData.canLay0, bl_canLay r]
theorem bl_depth : ∀ ns : List Bool, PyData.depthAll (ns.map PyData.bool) = 0
  | [] => rfl
  | _ :: r => by simp [PyData.depthAll, PyData.depth, bl_depth r]
theorem bl_shaped (ns : List Bool) : SeqAt.shaped (.list (ns.map PyData.bool)) = true := by
  simp [SeqAt.shaped, PyData.canLay0, PyData.depth, bl_canLay, bl_depth]
theorem bl_sameAll : ∀ ns ms : List Bool, PySem.Spec.sameAll (ns.map PyData.bool) (ms.map PyData.bool) = decide (ns = ms)
  | [], [] => by simp [PySem.Spec.sameAll]
  | [], _ :: _ => by simp [PySem.Spec.sameAll]
  | _ :: _, [] => by simp [PySem.Spec.sameAll]
  | a :: r, b :: t => by
    simp only [List.map_cons, PySem.Spec.sameAll, PySem.Spec.same, bl_sameAll r t]
    by_cases h : a = b <;> by_cases h' : r = t <;> simp [h, h']
theorem ne_bools {xs ys : List Bool} (ha : s.heap.IsList a (xs.map Value.bool).toArray) (hb : s.heap.IsList b (ys.map Value.bool).toArray) (hu : A.units + 64 < cLine) (h : Q (.bool (!decide (xs = ys))) s) :
    wpAny (model prog w) A (compareOp .NotEq (.ref a) (.ref b)) Q E s :=
  ne_dataH_same (reads_newData ha (bl_carried xs)) (reads_newData hb (bl_carried ys)) (bl_shaped _) (bl_shaped _) hu (SeqAt.noMix_of_shape (.list .bool) rfl _ _ (list_map_has fun _ => rfl) (list_map_has fun _ => rfl)) (by rw [show PySem.Spec.same (.list (xs.map PyData.bool)) (.list (ys.map PyData.bool)) = decide (xs = ys) from by simp only [PySem.Spec.same]; exact bl_sameAll _ _]; exact h)
end
end SN22
section SN3
set_option maxHeartbeats 2000000
section
variable {prog : Program} {w : World} {A : Around} {E : Value → Shared → Prop} {R : Result → Shared → Prop} {s : Shared} {env : Env}
theorem take_stored {K : Type} [DecidableEq K] {l : List (K × Value)} (hn : (l.map (·.1)).Nodup) {i : Nat} (hi : i < l.length) : stored (l.take i) (l[i]'hi).1 (l[i]'hi).2 = l.take (i + 1) := by
  rw [PyProof.Rows.stored_absent, List.take_succ_eq_append_getElem hi]
  unfold valueAt
  rw [Option.map_eq_none_iff, List.find?_eq_none]
  intro p hp
  simp only [decide_eq_true_eq]
  intro e
  obtain ⟨j, hj, rfl⟩ := List.getElem_of_mem hp
  rw [List.length_take] at hj
  have hji : j < i := by have := Nat.lt_min.mp hj; omega
  rw [List.getElem_take] at e
  have h1 : (l.map (·.1))[j]'(by simp; omega) = (l.map (·.1))[i]'(by simpa using hi) := by simpa using e
  exact (List.pairwise_iff_getElem.mp hn) j i _ _ hji h1
theorem dictZip {xa xb : String} {pa pb p1 p2 pt pos : Pos} {kt : Nat} {iter : Expr} {scope : Scope} {cl : List (Str × Addr)} {l1 l2 : Addr} {ps : List (Str × Tok)} {vs : List Value} {Q : Value → Shared → Prop}
    (hclos : closureFor scope env = pure cl) (hcell : ∀ y ∈ scope.names, y.2 ≠ .cell) (hkind : scope.kind = .function) (hnames : ∀ y ∈ scope.names, y.2 = .local → scope.names.lookup y.1 = some .local)
    (hxa : scope.names.lookup (Str.ofString xa) = some .local) (hxb : scope.names.lookup (Str.ofString xb) = some .local) (hab : Str.ofString xa ≠ Str.ofString xb) (hda : (Str.ofString xa == ("__debug__" : Str)) = false) (hdb : (Str.ofString xb == ("__debug__" : Str)) = false)
    (hh : A.handled = none) (h1 : s.heap.IsList l1 (strValues ps).toArray) (h2 : s.heap.IsList l2 vs.toArray) (hlen : ps.length = vs.length) (hnd : (ps.map (·.1)).Nodup) (hsz : ps.length ≤ 1000)
    (hi : ∀ (Q E : Value → Shared → Prop), (∀ tk, wpAny (model prog w) A (call (.type "zip") [.ref l1, .ref l2]) Q E { s with toks := tk }) → wpAny (model prog w) A (eval iter env) Q E s)
    (hQ : ∀ D h' tk, s.heap.get? D = none → @LE.le Nat _ s.heap.objs.size D → h'.DictOf (PySem.strKind prog w) D ((ps.map (·.1)).zip vs) → (∀ b o, s.heap.get? b = some o → h'.get? b = some o) → Q (.ref D) { s with heap := h', toks := tk })
    (hs : ∀ x, foldedSetIterable iter env x = pure x := by intro _; rfl) :
    wpAny (model prog w) A (eval (.DictComp (nm xa p1) (nm xb p2) [⟨.Tuple [nm xa pa, nm xb pb] kt pt, iter, [], 0⟩] scope pos) env) Q E s := by
  revert prog w A E s env xa xb pa pb p1 p2 pt pos kt iter scope cl l1 l2 ps vs Q
  intro PK prog w A E s env xa xb pa pb p1 p2 pt pos kt iter scope cl l1 l2 ps vs Q
  intro hclos hcell hkind hnames hxa hxb hab hda hdb hh h1 h2 hlen hnd hsz hi hQ hs
  rw [arm_eval_DictComp]
  refine wpAny_comprehension_free (use := none) rfl hs hclos hkind hnames (hi _ _ fun tk₀ => call_zip_2 (s := { s with toks := tk₀ }) h1 h2 fun h' hz hTI hTO hi1 hi2 hsz' hk => wpAny_pyIter_zip hz ?_)
  have a1 : @LT.lt Nat _ l1 s.heap.objs.size := let ⟨_, e, _⟩ := h1; Heap.lt_size e
  have a2 : @LT.lt Nat _ l2 s.heap.objs.size := let ⟨_, e, _⟩ := h2; Heap.lt_size e
  have D := zipApart_new a1 a2
  have W := (WalksT.zip2 (prog := prog) (w := w) (A := A) hh _ _ _ _ _ _ _ D (strValues ps).toArray vs.toArray)
  dsimp only at hz hTI hTO hi1 hi2 hsz' hk ⊢
  generalize hS : s.heap.objs.size = S at *
  refine wpAny_newObj_type (wpAny_newFunctionEnv hcell (by intro y hy; simp at hy) (fun h₁ hns₁ hsb₁ => ?_) hkind)
  dsimp only at hns₁ hsb₁ ⊢
  have hnew : (h'.push { cls := .type "dict", dict := none, data := .dict #[] }).DictOf (PySem.strKind prog w) h'.objs.size [] := Heap.DictOf.new h'
  generalize hH2 : h'.push { cls := .type "dict", dict := none, data := .dict #[] } = H2 at hns₁ hsb₁ hnew ⊢
  have hC : H2.objs.size = h'.objs.size + 1 := by rw [← hH2, Heap.size_push]
  generalize hDD : h'.objs.size = DD at *
  generalize hCC : H2.objs.size = C at *
  have hDC : DD ≠ C := by omega
  have hzlt : S + 4 < DD := by rw [← hDD]; exact Heap.lt_size hz
  have below : ∀ b : Nat, b < DD → b ≠ C ∧ b ≠ DD := fun b hb => ⟨by omega, by omega⟩
  have fpl : ∀ b ∈ [S + 4, S + 2, S + 3, S, S + 1, l1, l2], @LT.lt Nat _ b DD := by
    intro b hb
    have hb' : b = S + 4 ∨ b = S + 2 ∨ b = S + 3 ∨ b = S ∨ b = S + 1 ∨ b = l1 ∨ b = l2 := by simpa using hb
    omega
  have wrl : ∀ b ∈ [S + 4, S + 3, S, S + 1], @LE.le Nat _ S b := by
    intro b hb
    have hb' : b = S + 4 ∨ b = S + 3 ∨ b = S ∨ b = S + 1 := by simpa using hb
    omega
  have old : ∀ b o, h'.get? b = some o → h₁.get? b = some o := fun b o e => hsb₁.extBut b o (below b (hDD ▸ Heap.lt_size e)).1 (Heap.get?_push_of_some _ (hH2 ▸ Heap.get?_push_of_some _ e))
  have hacc : h₁.DictOf (PySem.strKind prog w) DD [] := hnew.at fun o e => hsb₁.extBut _ _ hDC (Heap.get?_push_of_some _ e)
  have lt : ∀ {b o}, s.heap.get? b = some o → @LT.lt Nat _ b S := fun e => hS ▸ Heap.lt_size e
  have fD : s.heap.get? DD = none := by
    cases e : s.heap.get? DD with
    | none => rfl
    | some o => exact absurd (lt e) (by omega)
  have szP : (strValues ps).toArray.size = ps.length := by simp [strValues]
  have szV : vs.toArray.size = vs.length := by simp
  have loop : ∀ s₃ : Shared, s₃ = { s with heap := h₁, toks := tk₀ } →
      codeAny (model prog w) A (.compLoop (.DictComp (nm xa p1) (nm xb p2) [⟨.Tuple [nm xa pa, nm xb pb] kt pt, iter, [], 0⟩] scope pos) 0 (.ref (S + 4)) (.ref DD) (compEnvC scope cl C env))
        (compPost (model prog w) A E none Q (.ref DD) C) s₃ := by
    rintro s₃ rfl
    refine codeAny_loop rfl (fun k s' => ∃ h' tk m' i, s' = { s with heap := h', toks := tk } ∧ (IsZip h' (S + 4) (S + 2) (S + 3) .none ∧ IsPair h' (S + 2) (.ref S) (.ref (S + 1)) ∧ (∃ a b, IsPair h' (S + 3) a b) ∧ h'.IsListIter S l1 i ∧ h'.IsListIter (S + 1) l2 i ∧ h'.IsList l1 (strValues ps).toArray ∧ h'.IsList l2 vs.toArray) ∧
      h'.DictOf (PySem.strKind prog w) DD (((ps.map (·.1)).zip vs).take i) ∧ h'.Ns C m' ∧ i ≤ ps.length ∧ k = ps.length + 1 - i ∧ ∀ b o, s.heap.get? b = some o → h'.get? b = some o) (fun n s' hI => ?_) (ps.length + 1)
      ⟨h₁, tk₀, _, 0, rfl, ⟨old _ _ hz, old _ _ hTI, ⟨_, _, old _ _ hTO⟩, hi1.at fun o e => old _ o e, hi2.at fun o e => old _ o e, h1.at fun o e => old _ o (hk _ o e), h2.at fun o e => old _ o (hk _ o e)⟩, by simpa using hacc, hns₁, Nat.zero_le _, rfl, fun b o e => old b o (hk b o e)⟩
    obtain ⟨h', tk, m', i, rfl, hst, hacc', hn', hin, rfl, hkp⟩ := hI
    show wpAny _ A ((compTurn (.DictComp (nm xa p1) (nm xb p2) [⟨.Tuple [nm xa pa, nm xb pb] kt pt, iter, [], 0⟩] scope pos) 0 (.ref (S + 4)) (.ref DD) (compEnvC scope cl C env)).onRaise (fun x => do noteFrame x (compEnvC scope cl C env); theTreesLotGoes x)) _ _ _
    refine wpAny_onRaise (wp_false ?_)
    rw [compTurn_dict]
    refine wpAny_bind (wpAny_standAt (wpAny_bind ?_))
    by_cases hlt : i < ps.length
    · refine W.item i _ _ _ (by rw [szP, szV]; omega) hst fun T vals h₂ tk₂ hP hTs hT hmid hk₂ => ?_
      obtain ⟨x, y, hx, hy, rfl⟩ := hP
      refine wpAny_bind (W.go _ _ _ i T _ _ _ hmid fun h₃ hst₃ hk₃ => ?_)
      have hT₃ : h₃.IsTuple T #[x, y] := let ⟨o, e, r⟩ := hT; ⟨o, hk₃ _ o (W.apart i T _ hmid) e, r⟩
      refine wpAny_bind (wpAny_assign_Tuple hh hT₃ rfl rfl fun h₄ hx₄ => ?_)
      replace hx₄ : Heap.ExtBut h₃.objs.size h₃ h₄ := hx₄
      have old₄ : ∀ b o, h₃.get? b = some o → h₄.get? b = some o := fun b o e => hx₄ b o (Nat.ne_of_lt (Heap.lt_size e)) e
      have hCw : ∀ {b : Nat}, DD ≤ b → b ∉ [S + 4, S + 3, S, S + 1] := fun {b} hb hm => by
        have hb' : b = S + 4 ∨ b = S + 3 ∨ b = S ∨ b = S + 1 := by simpa using hm
        omega
      have hCf : ∀ {b : Nat}, DD ≤ b → b ∉ [S + 4, S + 2, S + 3, S, S + 1, l1, l2] := fun {b} hb hm => absurd (fpl b hm) (by omega)
      have up₄ : ∀ {b : Nat}, DD ≤ b → ∀ o, h'.get? b = some o → h₄.get? b = some o := fun hb o e => old₄ _ o (hk₃ _ o (hCw hb) (hk₂ _ o (hCw hb) e))
      refine wpAny_bind (wpAny_holding (wpAny_assign_Name (wpAny_storeName_local (lookup_relabel_local hxa) (hn'.at' fun o e => up₄ (by omega) o e) (fun h₅ hn₅ hs₅ => ?_) (by simp [compEnvC, relabel, hkind]))))
      replace hs₅ : Heap.SameBut C h₄ h₅ := hs₅
      refine wpAny_bind (wpAny_holding (wpAny_assign_Name (wpAny_storeName_local (lookup_relabel_local hxb) hn₅ (fun h₆ hn₆ hs₆ => wpAny_pure ?_) (by simp [compEnvC, relabel, hkind]))))
      replace hs₆ : Heap.SameBut C h₅ h₆ := hs₆
      have up₆ : ∀ {b : Nat}, b ≠ C → ∀ o, h₃.get? b = some o → h₆.get? b = some o := fun hb o e => hs₆.extBut _ o hb (hs₅.extBut _ o hb (old₄ _ o e))
      refine wpAny_bind (wpAny_pure ?_)
      simp only [if_true]
      refine wpAny_bind (wpAny_bind ?_)
      have hxe : x = .str (ps[i]'hlt).1 (ps[i]'hlt).2 := by
        have : (strValues ps).toArray[i]? = some (.str (ps[i]'hlt).1 (ps[i]'hlt).2) := by simp [strValues, hlt]
        exact Option.some.inj (hx.symm.trans this)
      subst hxe
      have hz1 : i < ((ps.map (·.1)).zip vs).length := by rw [List.length_zip, List.length_map]; exact Nat.lt_min.mpr ⟨hlt, hlen ▸ hlt⟩
      have hpr : (((ps.map (·.1)).zip vs)[i]'hz1) = ((ps[i]'hlt).1, y) := by
        have hvl : i < vs.length := hlen ▸ hlt
        have hye : y = vs[i] := by simpa [hvl] using hy.symm
        simp [hye]
      have hnz : (((ps.map (·.1)).zip vs).map (·.1)).Nodup := by
        rw [List.map_fst_zip (by simp; omega)]; exact hnd
      refine name_ok (x := xa) (v := .str (ps[i]'hlt).1 (ps[i]'hlt).2) hkind (lookup_relabel_local hxa) hn₆ (by simp [hab]) ?_ hda
      refine wpAny_bind (wpAny_holding (name_ok (x := xb) hkind (lookup_relabel_local hxb) hn₆ (if_pos rfl) ?_ hdb))
      refine wpAny_bind (wpAny_standAt (wpAny_holding ?_))
      have hacc₆ : h₆.DictOf (PySem.strKind prog w) DD (((ps.map (·.1)).zip vs).take i) := hacc'.at fun o e => hs₆.extBut _ o hDC (hs₅.extBut _ o hDC (up₄ (by omega) o e))
      refine wpAny_dictSet_pairs (knd := PySem.strKind prog w) (k := (ps[i]'hlt).1) (hsz := Nat.le_trans (List.length_take_le ..) (Nat.le_trans (Nat.le_of_lt hlt) (Nat.le_trans hsz (by decide)))) (by simp [PySem.strKind, Value.isStrOf]) hacc₆ fun h₇ hl₇ hs₇ => ?_
      refine wpAny_pure ⟨rfl, _, ?_, h₇, _, _, i + 1, rfl, ?_, ?_, hn₆.sameBut hs₇ (Ne.symm hDC), hlt, rfl, ?_⟩
      · exact Nat.sub_succ_lt_self _ _ (Nat.lt_succ_of_lt hlt)
      · refine W.frame (i + 1) h₃ h₇ hst₃ fun b hb o e => ?_
        have hbD := fpl b hb
        exact hs₇.extBut b o (neN (by omega)) (up₆ (by omega) o e)
      · have := take_stored hnz hz1
        rw [hpr] at this
        rw [← this]
        exact hl₇
      · intro b o e
        have hbS := lt e
        have hbw : b ∉ [S + 4, S + 3, S, S + 1] := fun hm => absurd (wrl b hm) (by omega)
        exact hs₇.extBut b o (neN (by omega)) (up₆ (by omega) o (hk₃ b o hbw (hk₂ b o hbw (hkp b o e))))
    · have hin' : i = ps.length := by omega
      subst hin'
      refine W.done _ _ _ (by rw [szP, szV, ← hlen, Nat.min_self]; exact hst) fun h₂ tk₂ hk₂ => wpAny_pure ?_
      have hCw : ∀ {b : Nat}, DD ≤ b → b ∉ [S + 4, S + 3, S, S + 1] := fun {b} hb hm => by
        have hb' : b = S + 4 ∨ b = S + 3 ∨ b = S ∨ b = S + 1 := by simpa using hm
        omega
      refine ⟨m', hn'.at' fun o e => hk₂ _ o (hCw (by omega)) e, fun h₃ hs₃ => hQ DD h₃ tk₂ fD (by omega) ?_ ?_⟩
      · have ht : (((ps.map (·.1)).zip vs).take ps.length) = ((ps.map (·.1)).zip vs) := List.take_of_length_le (by simp; omega)
        rw [ht] at hacc'
        exact (hacc'.at fun o e => hk₂ _ o (hCw (Nat.le_refl _)) e).extBut hs₃.extBut hDC
      · intro b o e
        have hbS := lt e
        have hbw : b ∉ [S + 4, S + 3, S, S + 1] := fun hm => absurd (wrl b hm) (by omega)
        exact hs₃.extBut b o (neN (by omega)) (hk₂ b o hbw (hkp b o e))
  exact codeAny_compStart_dict (loop _ rfl) (wpAny_pyIter_zip (old _ _ hz) (loop _ rfl))
end
end SN3
section SN7
set_option maxHeartbeats 2000000
section
variable {prog : Program} {w : World} {A : Around} {E : Value → Shared → Prop} {s : Shared}
theorem setItem_all {l sl v : Addr} {items new : Array Value} {n : Nat} {Q : Unit → Shared → Prop} (hl : s.heap.get? l = some (W.listOf items n)) (hs : s.heap.IsSliceOf sl .none .none .none) (hv : s.heap.IsList v new) (hne : v ≠ l) (hsz : items.size + new.size ≤ 1000)
    (hQ : Q () { s with heap := s.heap.update l (Obj.mapSeq fun xs => xs.extract 0 (0 : Int).toNat ++ new ++ xs.extract (max 0 (items.size : Int)).toNat xs.size) }) : wpAny (model prog w) A (setItem (.ref l) (.ref sl) (.ref v)) Q E s := by
  revert prog w A E s l sl v items new n Q
  intro PK prog w A E s l sl v items new n Q
  intro hl hs hv hne hsz hQ
  have hL : s.heap.IsList l items := ⟨_, hl, rfl, n, rfl⟩
  obtain ⟨os, hos, hcs, hds⟩ := id hs
  obtain ⟨ov, hov, hcv, nv, hdv⟩ := id hv
  have hTs : s.TypeIs (.ref sl) "slice" := ⟨os, hos, hcs⟩
  unfold setItem
  try with_reducible refine wpAny_holding ?_
  first | refine wpAny_bind (wpAny_pure ?_) | skip
  refine wpAny_bind (wpAny_sequenceKey hL.typeIs (by decide) ?_)
  refine wpAny_bind (wpAny_callSpecial?_slot (name := Str.ofString "__setitem__") hL.typeIs slot_list_setitem
    (wpAny_call_entry slot_list_setitem hL.typeIs entry_list_setitem ?_ (args_list_setitem _ _ _)))
  show wpAny _ _ (Builtin.List.listSubscript? (.ref sl) >>= _) _ _ s
  refine wpAny_bind ?_
  unfold Builtin.List.listSubscript?
  refine wpAny_bind (wpAny_specialOf hTs slice_no_index ?_)
  simp only [Option.isNone_none, if_true]
  refine wpAny_pure ?_
  show wpAny _ _ (typeOf (.ref sl) >>= _) _ _ s
  refine wpAny_bind (wpAny_typeOf hTs ?_)
  rw [if_neg (by decide)]
  rw [listSliceParts_eq]
  refine wpAny_bind (wpAny_bind (wpAny_field hos hds (x := .none) rfl (wpAny_bind (wpAny_listPart .none ?_))))
  rw [if_neg (by decide)]
  refine wpAny_bind (wpAny_field hos hds (x := .none) rfl (wpAny_bind (wpAny_listPart .none ?_)))
  refine wpAny_bind (wpAny_field hos hds (x := .none) rfl (wpAny_bind (wpAny_listPart .none (wpAny_pure ?_))))
  rw [if_neg (by simp [Builtin.List.listSameRef]; exact fun e => hne e.symm)]
  refine wpAny_bind ?_
  unfold Builtin.List.listAllItems
  refine wpAny_bind (wpAny_typeOf hv.typeIs ?_)
  rw [if_pos (by decide)]
  unfold Builtin.List.listItems
  refine wpAny_bind (wpAny_seqItems hov hdv (wpAny_pure ?_))
  refine wpAny_bind (wpAny_bind (wpAny_seqItems hl rfl (wpAny_pure ?_)))
  refine wpAny_bind (wpAny_of_eq (sliceIndices_raw none none none items.size (by decide)) ?_)
  have e : sliceBounds none none none items.size = (0, (items.size : Int), 1) := by simp [sliceBounds]
  rw [e]
  dsimp only
  rw [if_pos (by decide)]
  have hz : items.size + new.size ≤ sizeLine := Nat.le_trans hsz (by decide)
  refine wpAny_bind (wpAny_rule ?_)
  rw [if_neg (by unfold Builtin.List.listTooLong; simp; unfold sizeLine; omega)]
  refine wpAny_bind (wpAny_updateSeq hl rfl ?_ (by unfold sizeLine; omega) ?_)
  · refine wpAny_bind (wpAny_letGo ?_)
    exact wpAny_pure ⟨.none, rfl, wpAny_pure hQ⟩
  · simp
    unfold sizeLine
    omega
theorem setAll_N {h₀ : Heap} {L l sl v : Addr} {m : Str → Option Value} {items new : Array Value} {n : Nat} {rest : Led} {Q : Unit → Shared → Prop} (F : Fr h₀ L s.heap m) (N : News h₀ L s.heap ((l, W.listOf items n) :: rest)) (hoff : ∀ p ∈ rest, p.1 ≠ l)
    (hs : s.heap.IsSliceOf sl .none .none .none) (hv : s.heap.IsList v new) (hne : v ≠ l) (hsz : items.size + new.size ≤ 1000)
    (hQ : ∀ h' n', Fr h₀ L h' m → News h₀ L h' ((l, W.listOf new n') :: rest) → Q () { s with heap := h' }) : wpAny (model prog w) A (setItem (.ref l) (.ref sl) (.ref v)) Q E s := by
  have z := N (l, W.listOf items n) (List.mem_cons_self ..)
  have ef : (fun xs : Array Value => xs.extract 0 (0 : Int).toNat ++ new ++ xs.extract (max 0 (items.size : Int)).toNat xs.size) items = new := by
    have h1 : (max 0 (items.size : Int)).toNat = items.size := by omega
    show items.extract 0 (0 : Int).toNat ++ new ++ items.extract (max 0 (items.size : Int)).toNat items.size = new
    rw [h1]
    simp
  have e : News h₀ L (s.heap.update l (Obj.mapSeq fun xs => xs.extract 0 (0 : Int).toNat ++ new ++ xs.extract (max 0 (items.size : Int)).toNat xs.size)) ([] ++ (l, W.listOf new _) :: rest) :=
    ki_turn (its := items) (n := n) (pre := []) (post := rest) (fun xs => xs.extract 0 (0 : Int).toNat ++ new ++ xs.extract (max 0 (items.size : Int)).toNat xs.size) N (fun _ h => nomatch h) hoff ef rfl
  exact setItem_all z.1 hs hv hne hsz (hQ _ _ (F.change (Heap.SameBut.update ..) z.2.1 z.2.2) e)
end
end SN7
section SN8
set_option maxHeartbeats 2000000
section
variable {prog : Program} {w : World} {A : Around} {E : Value → Shared → Prop} {s : Shared} {env cenv : Env} {h₀ : Heap} {L : Addr} {m : Str → Option Value} {target : Expr} {Rl : Shared → Shared → Prop}
abbrev testsOf (ifs : List Expr) (cenv : Env) : Sem Bool := forIn ifs true fun c r => if r = true then do let ok ← isTrue c cenv (eval c cenv); pure (ForInStep.yield ok) else pure (ForInStep.yield r)
abbrev StepC (Rl : Shared → Shared → Prop) (h₀ : Heap) (L : Addr) (m : Str → Option Value) (wr : List Addr) (own : Led) (X : Led → Prop) (s : Shared) : Shared → Prop := StepN Rl h₀ L wr own (fun m' nx => m' = m ∧ X nx) s
theorem compLoopN {elt iter : Expr} {ifs : List Expr} {scope : Scope} {pos : Pos} {I Dl C : Addr} {fp wr xs : List Addr} {n : Nat} {P Md : Nat → Value → Heap → Prop} {St : Nat → Heap → Prop} {news : Led} {mc₀ : Str → Option Value} (hR : RestOk Rl) (Wk : KTurns prog w A target I fp wr n P Md St)
    (Bd : Nat → Value → (Str → Option Value) → Heap → Prop) (hC : cenv.locals = C)
    (asg : ∀ i v (s : Shared) mc (Q : Unit → Shared → Prop) (E : Value → Shared → Prop), s.heap.Ns C mc → (∀ b ∈ xs, ∃ o, s.heap.get? b = some o) → P i v s.heap →
      (∀ h' tk mc', h'.Ns C mc' → Bd i v mc' h' → (∀ b ∈ xs, ∃ o, h'.get? b = some o) → (∀ b o, b ∉ C :: xs → s.heap.get? b = some o → h'.get? b = some o) → Q () { s with heap := h', toks := tk }) → wpAny (model prog w) A (assign target cenv v) Q E s)
    (hap : Dl ∉ fp ∧ C ∉ fp ∧ (∀ b ∈ xs, b ∉ fp) ∧ Dl ∉ C :: xs) (hL : L ∉ Dl :: C :: (xs ++ fp)) (hnew : ∀ b ∈ Dl :: C :: (xs ++ wr), h₀.get? b = none)
    (hnw : ∀ p ∈ news, p.1 ∉ Dl :: C :: (xs ++ wr)) (hst : St 0 s.heap) (F : Fr h₀ L s.heap m) (N : News h₀ L s.heap news) (hD : s.heap.get? Dl = some (W.listOf #[] 0)) (hns : s.heap.Ns C mc₀) (hxs : ∀ b ∈ xs, ∃ o, s.heap.get? b = some o) (hlen : n ≤ 100000)
    (J : Nat → List Value → Led → Prop) (h0 : J 0 [] news)
    (step : ∀ i v ys mc news₁ s₁ own (E : Value → Shared → Prop), i < n → (∃ h, P i v h) → J i ys news₁ → (∀ p ∈ news₁, p.1 ∉ Dl :: C :: (xs ++ wr)) → (∀ p ∈ own, p.1 ∈ Dl :: C :: (xs ++ fp)) → Rl s s₁ →
      Fr h₀ L s₁.heap m → News h₀ L s₁.heap (news₁ ++ own) → s₁.heap.Ns C mc → Bd i v mc s₁.heap → (∀ b ∈ Dl :: C :: (xs ++ fp), h₀.get? b = none → ∀ o, s₁.heap.get? b = some o → (b, o) ∈ own) → (∃ o, (Dl, o) ∈ own) → St (i + 1) s₁.heap →
      wpAny (model prog w) A (testsOf ifs cenv) (fun ok s₂ => if ok = true then wpAny (model prog w) A (eval elt cenv) (fun y s₃ => StepC Rl h₀ L m (Dl :: C :: (xs ++ wr)) own (J (i + 1) (ys ++ [y])) s s₃) E s₂
        else StepC Rl h₀ L m (Dl :: C :: (xs ++ wr)) own (J (i + 1) ys) s s₂) E s₁)
    {R : Result → Shared → Prop}
    (rest : ∀ ys nn mc news' s', Rl s s' → Fr h₀ L s'.heap m → News h₀ L s'.heap news' → (∀ p ∈ news', p.1 ∉ Dl :: C :: (xs ++ wr)) → J n ys news' → s'.heap.get? Dl = some (W.listOf ys.toArray nn) → s'.heap.Ns C mc → R (.ok .next) s') :
    codeAny (model prog w) A (.compLoop (.ListComp elt [⟨target, iter, ifs, 0⟩] scope pos) 0 (.ref I) (.ref Dl) cenv) R s := by
  revert prog w A s cenv h₀ L m target Rl elt iter ifs scope pos I Dl C fp wr xs n P Md St news mc₀ Bd J R
  intro PK prog w A s cenv h₀ L m target Rl elt iter ifs scope pos I Dl C fp wr xs n P Md St news mc₀
  intro hR Wk
  intro PK Bd
  intro hC asg hap hL hnew hnw hst F N hD hns hxs hlen
  intro PK J
  intro h0 step
  intro PK R
  intro rest
  obtain ⟨ap1, ap2, ap3, ap4⟩ := hap
  have old : ∀ b o, h₀.get? b = some o → b ∉ Dl :: C :: (xs ++ wr) := fun b o e hb => by rw [hnew b hb] at e; cases e
  have wrD : ∀ {b}, b ∈ wr → b ∈ Dl :: C :: (xs ++ wr) := fun h => List.mem_cons_of_mem _ (List.mem_cons_of_mem _ (List.mem_append_right _ h))
  have cxD : ∀ {b}, b ∈ C :: xs → b ∈ Dl :: C :: (xs ++ wr) := fun h => List.mem_cons_of_mem _ (by rcases List.mem_cons.mp h with rfl | h; exact List.mem_cons_self ..; exact List.mem_cons_of_mem _ (List.mem_append_left _ h))
  have hLw : L ∉ Dl :: C :: (xs ++ wr) := fun h => hL (by
    simp only [List.mem_cons, List.mem_append] at h ⊢
    rcases h with h | h | h | h
    · exact .inl h
    · exact .inr (.inl h)
    · exact .inr (.inr (.inl h))
    · exact .inr (.inr (.inr (Wk.sub _ h))))
  have next : ∀ {h h₁ : Heap} {news' : Led}, Fr h₀ L h m → News h₀ L h news' → (∀ p ∈ news', p.1 ∉ Dl :: C :: (xs ++ wr)) → (∀ b o, b ∉ Dl :: C :: (xs ++ wr) → h.get? b = some o → h₁.get? b = some o) → Fr h₀ L h₁ m ∧ News h₀ L h₁ news' := fun F' N' hnw' hk₁ =>
    ⟨⟨F'.ns.at' fun o e => hk₁ _ o hLw e, fun b o e => hk₁ b o (old b o e) (F'.keep b o e), F'.above⟩, fun p hp => ⟨hk₁ _ _ (hnw' p hp) (N' p hp).1, (N' p hp).2⟩⟩
  refine codeAny_loop rfl
    (fun k s' => ∃ ys nn mc news' i, Rl s s' ∧ St i s'.heap ∧ Fr h₀ L s'.heap m ∧ News h₀ L s'.heap news' ∧ (∀ p ∈ news', p.1 ∉ Dl :: C :: (xs ++ wr)) ∧ J i ys news' ∧ s'.heap.get? Dl = some (W.listOf ys.toArray nn) ∧ s'.heap.Ns C mc ∧ (∀ b ∈ xs, ∃ o, s'.heap.get? b = some o) ∧ ys.length ≤ i ∧ i ≤ n ∧ k = n + 1 - i) (fun k s' hI => ?_) (n + 1)
    ⟨[], 0, mc₀, news, 0, hR.refl s, hst, F, N, hnw, h0, hD, hns, hxs, Nat.le_refl _, Nat.zero_le _, rfl⟩
  obtain ⟨ys, nn, mc, news', i, hrl, hst', F', N', hnw', hJ, hD', hns', hxs', hyl, hi, rfl⟩ := hI
  show wpAny _ A ((compTurn (.ListComp elt [⟨target, iter, ifs, 0⟩] scope pos) 0 (.ref I) (.ref Dl) cenv).onRaise (fun x => do noteFrame x cenv; theTreesLotGoes x)) _ _ s'
  refine wpAny_onRaise (wp_false ?_)
  rw [compTurn_list]
  refine wpAny_bind (wpAny_standAt (wpAny_bind ?_))
  by_cases hlt : i < n
  · refine Wk.item i _ _ _ hlt hst' fun v h₁ tk₁ hMd hk₁ => ?_
    refine wpAny_bind (Wk.go i v _ _ _ hMd fun h₂ hP hst₂ hk₂ => ?_)
    have k₂ : ∀ b o, b ∉ wr → s'.heap.get? b = some o → h₂.get? b = some o := fun b o hb e => hk₂ b o hb (hk₁ b o hb e)
    have hCw : C ∉ wr := fun h => ap2 (Wk.sub _ h)
    have hDw : Dl ∉ wr := fun h => ap1 (Wk.sub _ h)
    have hxw : ∀ b ∈ xs, b ∉ wr := fun b hb h => ap3 b hb (Wk.sub _ h)
    refine wpAny_bind (asg i v _ mc _ _ (hns'.at' fun o e => k₂ _ o hCw e) (fun b hb => let ⟨o, e⟩ := hxs' b hb; ⟨o, k₂ b o (hxw b hb) e⟩) hP fun h₃ tk₃ mc₃ hn₃ hb₃ hx₃ hk₃ => ?_)
    have k₃ : ∀ b o, b ∉ Dl :: C :: (xs ++ wr) → s'.heap.get? b = some o → h₃.get? b = some o := fun b o hb e => hk₃ b o (fun h => hb (cxD h)) (k₂ b o (fun h => hb (wrD h)) e)
    obtain ⟨F₃, N₃⟩ := next F' N' hnw' k₃
    have hst₃ : St (i + 1) h₃ := Wk.frame _ _ _ hst₂ fun b hb o e => hk₃ b o (fun h => by
      rcases List.mem_cons.mp h with rfl | h
      · exact ap2 hb
      · exact ap3 b h hb) e
    have hD₃ : h₃.get? Dl = some (W.listOf ys.toArray nn) := hk₃ _ _ ap4 (k₂ _ _ hDw hD')
    have Nown : News h₀ L h₃ (PyProof.Rows.ownOf h₀ (Dl :: C :: (xs ++ fp)) h₃) := news_ownOf hL
    have done : ∀ (s₄ : Shared) (y : Value) (X : Led → Prop), StepC Rl h₀ L m (Dl :: C :: (xs ++ wr)) (PyProof.Rows.ownOf h₀ (Dl :: C :: (xs ++ fp)) h₃) X s s₄ →
        ∃ news₄, Rl s s₄ ∧ St (i + 1) s₄.heap ∧ Fr h₀ L s₄.heap m ∧ News h₀ L s₄.heap news₄ ∧ (∀ p ∈ news₄, p.1 ∉ Dl :: C :: (xs ++ wr)) ∧ X news₄ ∧ s₄.heap.get? Dl = some (W.listOf ys.toArray nn) ∧ s₄.heap.Ns C mc₃ ∧ ∀ b ∈ xs, ∃ o, s₄.heap.get? b = some o := by
      intro s₄ y X z1q
      obtain ⟨m₄, news₄, hr₄, F₄, N₄, ha₄, rfl, hX⟩ := z1q
      have kp : ∀ b ∈ Dl :: C :: (xs ++ fp), ∀ o, h₃.get? b = some o → s₄.heap.get? b = some o := fun b hb o e => by
        cases hn : h₀.get? b with
        | some o₀ =>
          have : o₀ = o := by have q := F₃.keep b o₀ hn; rw [e] at q; exact (Option.some.inj q).symm
          exact this ▸ F₄.keep b o₀ hn
        | none => exact (N₄ _ (List.mem_append_right _ (mem_ownOf hb hn e))).1
      refine ⟨news₄, hr₄, ?_, F₄, fun p hp => N₄ p (List.mem_append_left _ hp), ha₄, hX, kp _ (List.mem_cons_self ..) _ hD₃, hn₃.at' fun o e => kp C (List.mem_cons_of_mem _ (List.mem_cons_self ..)) o e, fun b hb => let ⟨o, e⟩ := hx₃ b hb; ⟨o, kp b (List.mem_cons_of_mem _ (List.mem_cons_of_mem _ (List.mem_append_left _ hb))) o e⟩⟩
      exact Wk.frame _ _ _ hst₃ fun b hb o e => kp b (List.mem_cons_of_mem _ (List.mem_cons_of_mem _ (List.mem_append_right _ hb))) o e
    refine wpAny_bind (wpAny_mono (step i v ys mc₃ news' _ (PyProof.Rows.ownOf h₀ (Dl :: C :: (xs ++ fp)) h₃) (fun _ _ => False) hlt ⟨_, hP⟩ hJ hnw' ownOf_sub (hR.trans hrl (hR.step _ h₃ tk₃)) F₃ (N₃.append Nown) hn₃ hb₃ (fun b hb hn o e => mem_ownOf hb hn e) ⟨_, mem_ownOf (List.mem_cons_self ..) (hnew _ (List.mem_cons_self ..)) hD₃⟩ hst₃) (fun ok s₄ h₄ => ?_) fun _ _ e => e)
    cases ok with
    | false =>
      simp only [Bool.false_eq_true, if_false] at h₄ ⊢
      obtain ⟨news₄, hr₄, hst₄, F₄, N₄, ha₄, hX, hD₄, hns₄, hx₄⟩ := done s₄ .none _ h₄
      exact wpAny_pure ⟨rfl, _, Nat.sub_succ_lt_self _ _ (Nat.lt_succ_of_lt hlt), ys, nn, mc₃, news₄, i + 1, hr₄, hst₄, F₄, N₄, ha₄, hX, hD₄, hns₄, hx₄, by omega, hlt, rfl⟩
    | true =>
      simp only [if_true] at h₄ ⊢
      refine wpAny_bind (wpAny_bind (wpAny_mono h₄ (fun y s₅ h₅ => ?_) fun _ _ e => e))
      obtain ⟨news₄, hr₄, hst₄, F₄, N₄, ha₄, hX, hD₄, hns₄, hx₄⟩ := done s₅ y _ h₅
      refine wpAny_bind ?_
      refine append_at hD₄ (fun h₆ hs₆ ho₆ => ?_) (by rw [List.size_toArray]; unfold sizeLine; omega)
      refine wpAny_pure (wpAny_pure ⟨rfl, _, ?_, ys ++ [y], nn + 1, mc₃, news₄, i + 1, hR.trans hr₄ (hR.step s₅ h₆ s₅.toks), ?_, ?_, ?_, ha₄, hX, ?_, ?_, ?_, ?_, hlt, rfl⟩)
      · omega
      · exact Wk.frame _ _ _ hst₄ fun b hb o e => hs₆.extBut b o (fun h => ap1 (h ▸ hb)) e
      · exact (next F₄ N₄ ha₄ fun b o hb e => hs₆.extBut b o (fun h => hb (h ▸ List.mem_cons_self ..)) e).1
      · exact (next F₄ N₄ ha₄ fun b o hb e => hs₆.extBut b o (fun h => hb (h ▸ List.mem_cons_self ..)) e).2
      · rw [ho₆]; simp
      · exact hns₄.sameBut hs₆ (fun h => ap4 (h ▸ List.mem_cons_self ..))
      · exact fun b hb => let ⟨o, e⟩ := hx₄ b hb; ⟨o, hs₆.extBut b o (fun h => ap4 (h ▸ List.mem_cons_of_mem _ hb)) e⟩
      · simp; omega
  · have hin : i = n := by omega
    subst hin
    refine Wk.done _ _ _ hst' fun h₁ tk₁ hk₁ => wpAny_pure ?_
    have hk₁' : ∀ b o, b ∉ Dl :: C :: (xs ++ wr) → s'.heap.get? b = some o → h₁.get? b = some o := fun b o hb e => hk₁ b o (fun h => hb (wrD h)) e
    obtain ⟨F₁, N₁⟩ := next F' N' hnw' hk₁'
    exact rest ys nn mc news' _ (hR.trans hrl (hR.step _ h₁ tk₁)) F₁ N₁ hnw' hJ (hk₁ _ _ (fun h => ap1 (Wk.sub _ h)) hD') (hns'.at' fun o e => hk₁ _ o (fun h => ap2 (Wk.sub _ h)) e)
end
end SN8
section SN9
set_option maxHeartbeats 2000000
section
variable {prog : Program} {w : World} {A : Around} {E : Value → Shared → Prop} {s : Shared} {env : Env} {h₀ : Heap} {L : Addr} {m : Str → Option Value} {target elt iter : Expr} {ifs : List Expr} {scope : Scope} {pos : Pos} {cl : List (Str × Addr)} {Rl : Shared → Shared → Prop} {Q : Value → Shared → Prop}
structure CompBody (prog : Program) (w : World) (A : Around) (elt target iter : Expr) (ifs : List Expr) (scope : Scope) (pos : Pos) (cl : List (Str × Addr)) (env : Env) (Q : Value → Shared → Prop) (E : Value → Shared → Prop) (it : Value) (s₂ : Shared) : Prop where
  out : wpAny (model prog w) A (newList []) (fun acc s₃ => wpAny (model prog w) A (newFunctionEnv scope env.globals cl [] env.qual none .none (some env)) (fun cenv s₄ =>
    codeAny (model prog w) A (.compStart (.ListComp elt [⟨target, iter, ifs, 0⟩] scope pos) 0 it acc { cenv with scope := relabel scope env }) (compPost (model prog w) A E none Q acc cenv.locals) s₄) E s₃) E s₂
theorem Comp_N (hclos : closureFor scope env = pure cl) (hkind : scope.kind = .function) (hnames : ∀ y ∈ scope.names, y.2 = .local → scope.names.lookup y.1 = some .local)
    (h : wpAny (model prog w) A (eval iter env) (fun xv s₁ => wpAny (model prog w) A (pyIter xv) (CompBody prog w A elt target iter ifs scope pos cl env Q E) E s₁) E s)
    (hs : ∀ x, foldedSetIterable iter env x = pure x := by intro _; rfl) : wpAny (model prog w) A (eval (.ListComp elt [⟨target, iter, ifs, 0⟩] scope pos) env) Q E s := by
  rw [eval_ListComp]
  exact wpAny_comprehension_free (use := none) rfl hs hclos hkind hnames (wpAny_mono h (fun _ _ h₁ => wpAny_mono h₁ (fun _ _ h₂ => h₂.out) fun _ _ e => e) fun _ _ e => e)
theorem step_back {wr : List Addr} {own : Led} {X : (Str → Option Value) → Led → Prop} {h : Heap} {tk : Nat} {s₃ : Shared} (hR : RestOk Rl) (x : StepN Rl h₀ L wr own X s s₃) : StepN Rl h₀ L wr own X { s with heap := h, toks := tk } s₃ := by
  obtain ⟨m₂, news₂, hr₃, r⟩ := x
  exact ⟨m₂, news₂, hR.back _ tk hr₃, r⟩
theorem comp_core {I : Addr} {fp wr : List Addr} {n : Nat} {P Md : Nat → Value → Heap → Prop} {St : Nat → Heap → Prop} {news : Led} (hR : RestOk Rl) (Wk : KTurns prog w A target I fp wr n P Md St) (hself : ∀ (s : Shared) (Q : Value → Shared → Prop) (E : Value → Shared → Prop), St 0 s.heap → Q (.ref I) s → wpAny (model prog w) A (pyIter (.ref I)) Q E s) (hlive : ∀ i h, St i h → ∀ b ∈ wr, ∃ o, h.get? b = some o)
    (hcell : ∀ y ∈ scope.names, y.2 ≠ .cell) (hkind : scope.kind = .function) (Bd : Nat → Value → (Str → Option Value) → Heap → Prop)
    (asg : ∀ C i v (s : Shared) mc (Q : Unit → Shared → Prop) (E : Value → Shared → Prop), s.heap.Ns C mc → P i v s.heap →
      (∀ h' tk mc', h'.Ns C mc' → Bd i v mc' h' → (∀ b o, b ≠ C → s.heap.get? b = some o → h'.get? b = some o) → Q () { s with heap := h', toks := tk }) → wpAny (model prog w) A (assign target (compEnvC scope cl C env) v) Q E s)
    (hfp : ∀ b ∈ fp, b < s.heap.objs.size) (hLf : L ∉ fp) (hwr : ∀ b ∈ wr, h₀.get? b = none) (hnw : ∀ p ∈ news, p.1 ∉ wr) (hst : St 0 s.heap) (F : Fr h₀ L s.heap m) (N : News h₀ L s.heap news) (hlen : n ≤ 100000)
    (J : Nat → List Value → Led → Prop) (h0 : J 0 [] news)
    (step : ∀ i v ys mc news₁ s₁ own C wr' (E : Value → Shared → Prop), i < n → (∃ h, P i v h) → J i ys news₁ → (∀ p ∈ news₁, p.1 ∉ wr') → (∀ b ∈ wr', s.heap.objs.size ≤ b ∨ b ∈ wr) → (∀ p ∈ own, p.1 ∈ fp ∨ s.heap.objs.size ≤ p.1) → (∀ b ∈ wr', ∃ o, (b, o) ∈ own) → Rl s s₁ →
      Fr h₀ L s₁.heap m → News h₀ L s₁.heap (news₁ ++ own) → s₁.heap.Ns C mc → (∃ o, (C, o) ∈ own) → Bd i v mc s₁.heap → St (i + 1) s₁.heap →
      wpAny (model prog w) A (testsOf ifs (compEnvC scope cl C env)) (fun ok s₂ => if ok = true then wpAny (model prog w) A (eval elt (compEnvC scope cl C env)) (fun y s₃ => StepC Rl h₀ L m wr' own (J (i + 1) (ys ++ [y])) s s₃) E s₂
        else StepC Rl h₀ L m wr' own (J (i + 1) ys) s s₂) E s₁)
    (rest : ∀ ys nn news' s' Dl, Rl s s' → Fr h₀ L s'.heap m → News h₀ L s'.heap ((Dl, W.listOf ys.toArray nn) :: news') → (∀ p ∈ news', p.1 ≠ Dl) → J n ys news' → Q (.ref Dl) s') :
    CompBody prog w A elt target iter ifs scope pos cl env Q E (.ref I) s := by
  refine ⟨wpAny_newObj_type (wpAny_newFunctionEnv hcell (by intro y hy; simp at hy) (fun h₁ hns₁ hsb₁ => ?_) hkind)⟩
  dsimp only at hns₁ hsb₁ ⊢
  generalize hH2 : s.heap.push { cls := .type "list", dict := none, data := .seq ([] : List Value).toArray } = H2 at hns₁ hsb₁ ⊢
  have hC : H2.objs.size = s.heap.objs.size + 1 := by rw [← hH2, Heap.size_push]
  generalize hSS : s.heap.objs.size = S at *
  generalize hCC : H2.objs.size = C at *
  subst hC
  have hDC : S ≠ S + 1 := Nat.ne_of_lt (Nat.lt_succ_self _)
  have below : ∀ b, b < S → b ≠ S + 1 ∧ b ≠ S := fun b hb => ⟨Nat.ne_of_lt (Nat.lt_succ_of_lt hb), Nat.ne_of_lt hb⟩
  have lt : ∀ {b o}, s.heap.get? b = some o → b < S := fun e => hSS ▸ Heap.lt_size e
  have old : ∀ b o, s.heap.get? b = some o → h₁.get? b = some o := fun b o e => hsb₁.extBut b o (below b (lt e)).1 (Heap.get?_push_of_some _ (hH2 ▸ Heap.get?_push_of_some _ e))
  have hacc : h₁.get? S = some (W.listOf #[] 0) := hsb₁.extBut _ _ hDC (Heap.get?_push_of_some _ (hH2 ▸ hSS ▸ Heap.get?_push_size _ rfl))
  have hst₁ : St 0 h₁ := Wk.frame _ _ _ hst fun b _ o e => old b o e
  have fresh : ∀ a, S ≤ a → h₀.get? a = none := fun a ha => fr_new F (hSS ▸ ha)
  have hLs : L < S := hSS ▸ F.ns.lt
  have hSf : S ∉ fp := fun h => Nat.lt_irrefl _ (hfp _ h)
  have hCf : S + 1 ∉ fp := fun h => Nat.lt_irrefl _ (Nat.lt_trans (Nat.lt_succ_self _) (hfp _ h))
  have wrL : ∀ b ∈ S :: (S + 1) :: ([] ++ wr), S ≤ b ∨ b ∈ wr := fun b hb => by
    simp only [List.nil_append, List.mem_cons] at hb
    rcases hb with rfl | rfl | hb
    · exact .inl (Nat.le_refl _)
    · exact .inl (Nat.le_succ _)
    · exact .inr hb
  have loop : ∀ s₃ : Shared, s₃ = { s with heap := h₁, toks := s.toks + ([] : List (Str × Value)).length } →
      codeAny (model prog w) A (.compLoop (.ListComp elt [⟨target, iter, ifs, 0⟩] scope pos) 0 (.ref I) (.ref S) (compEnvC scope cl (S + 1) env)) (compPost (model prog w) A E none Q (.ref S) (S + 1)) s₃ := by
    rintro s₃ rfl
    refine compLoopN (s := { s with heap := h₁, toks := s.toks + ([] : List (Str × Value)).length }) (xs := []) (C := S + 1) hR Wk Bd rfl (fun i v s' mc Q E hn _ hP hQ => asg (S + 1) i v s' mc Q E hn hP fun h' tk mc' a b c => hQ h' tk mc' a b (fun _ h => nomatch h) fun b' o hb e => c b' o (fun h => hb (h ▸ List.mem_cons_self ..)) e)
      ⟨hSf, hCf, (fun _ h => nomatch h), by simp⟩ ?_ ?_ ?_ hst₁ (F.kept old) (N.keepsAll old) hacc hns₁ (fun _ h => nomatch h) hlen J h0 ?_ ?_
    · simp only [List.nil_append, List.mem_cons]
      rintro (e | e | e)
      · exact Nat.ne_of_lt hLs e
      · exact Nat.ne_of_lt (Nat.lt_succ_of_lt hLs) e
      · exact hLf e
    · intro b hb
      rcases wrL b hb with h | h
      · exact fresh b h
      · exact hwr b h
    · intro p hp hb
      rcases wrL _ hb with h | h
      · exact Nat.not_lt.mpr h (lt (N p hp).1)
      · exact hnw p hp h
    · intro i v ys mc news₁ s₁ own E' hi hP hJ ha how hr F₁ N₁ hn hb hmo hDo hst'
      have hCo : ∃ o, (S + 1, o) ∈ own := by
        obtain ⟨o, _, _, e, _⟩ := hn
        exact ⟨o, hmo _ (by walk_at "INS") (fresh _ (Nat.le_succ _)) o e⟩
      refine wpAny_mono (step i v ys mc news₁ s₁ own (S + 1) _ E' hi hP hJ ha wrL (fun p hp => ?_) (fun b hb => ?_) (hR.trans (hR.step _ _ _) hr) F₁ N₁ hn hCo hb hst') (fun ok s₂ h₂ => ?_) fun _ _ e => e
      · have := how p hp
        simp only [List.nil_append, List.mem_cons] at this
        rcases this with h | h | h
        · exact .inr (Nat.le_of_eq h.symm)
        · exact .inr (h ▸ Nat.le_succ _)
        · exact .inl h
      · simp only [List.nil_append, List.mem_cons] at hb
        rcases hb with rfl | rfl | h
        · exact hDo
        · exact hCo
        · obtain ⟨o, e⟩ := hlive _ _ hst' b h
          exact ⟨o, hmo b (by simp [Wk.sub b h]) (hwr b h) o e⟩
      · cases ok with
        | true =>
          simp only [if_true] at h₂ ⊢
          exact wpAny_mono h₂ (fun y s₃ h₃ => step_back hR h₃) fun _ _ e => e
        | false =>
          simp only [Bool.false_eq_true, if_false] at h₂ ⊢
          exact step_back hR h₂
    · intro ys nn mc news' s' hr F' N' ha hJ hD hn
      refine ⟨mc, hn, fun h' hs' => rest ys nn news' _ S (hR.trans (hR.trans (hR.step _ _ _) hr) (hR.step s' h' s'.toks)) ?_ ?_ ?_ hJ⟩
      · exact ⟨F'.ns.sameBut hs' (fun h => Nat.ne_of_lt (Nat.lt_succ_of_lt hLs) h), fun b o e => hs'.extBut b o (fun h => by rw [h, fresh _ (Nat.le_succ _)] at e; cases e) (F'.keep b o e), F'.above⟩
      · intro p hp
        rcases List.mem_cons.mp hp with rfl | hp
        · exact ⟨hs'.extBut _ _ hDC hD, Nat.ne_of_gt hLs, fresh _ (Nat.le_refl _)⟩
        · exact ⟨hs'.extBut _ _ (fun h => ha p hp (by simp [h])) (N' p hp).1, (N' p hp).2⟩
      · exact fun p hp h => ha p hp (by simp [h])
  exact codeAny_compStart_list (loop _ rfl) (hself _ _ _ hst₁ (loop _ rfl))
theorem asg_name {x : Str} {px : Pos} (hkind : scope.kind = .function) (hx : scope.names.lookup x = some .local) {P : Nat → Value → Heap → Prop} : ∀ C i v (s : Shared) mc (Q : Unit → Shared → Prop) (E : Value → Shared → Prop), s.heap.Ns C mc → P i v s.heap →
      (∀ h' tk mc', h'.Ns C mc' → mc' x = some v → (∀ b o, b ≠ C → s.heap.get? b = some o → h'.get? b = some o) → Q () { s with heap := h', toks := tk }) → wpAny (model prog w) A (assign (.Name x px) (compEnvC scope cl C env) v) Q E s := by
  intro C i v s mc Q E hn _ hQ
  refine wpAny_assign_Name (wpAny_storeName_local (lookup_relabel_local hx) hn (fun h' hn' hs' => ?_) (by simp [compEnvC, relabel, hkind]))
  exact hQ h' _ _ hn' (if_pos rfl) fun b o hb e => Heap.SameBut.extBut hs' b o hb e
theorem asg_pair {xa xb : Str} {pa pb pt : Pos} {kt : Nat} (hh : A.handled = none) (hkind : scope.kind = .function) (hxa : scope.names.lookup xa = some .local) (hxb : scope.names.lookup xb = some .local) (hab : xa ≠ xb) {P : Nat → Value → Heap → Prop} (hP : ∀ i v h, P i v h → ∃ T a b, v = .ref T ∧ h.IsTuple T #[a, b]) :
    ∀ C i v (s : Shared) mc (Q : Unit → Shared → Prop) (E : Value → Shared → Prop), s.heap.Ns C mc → P i v s.heap →
      (∀ h' tk mc', h'.Ns C mc' → (∃ h T a b, P i v h ∧ v = .ref T ∧ h.IsTuple T #[a, b] ∧ mc' xa = some a ∧ mc' xb = some b) → (∀ b o, b ≠ C → s.heap.get? b = some o → h'.get? b = some o) → Q () { s with heap := h', toks := tk }) → wpAny (model prog w) A (assign (.Tuple [.Name xa pa, .Name xb pb] kt pt) (compEnvC scope cl C env) v) Q E s := by
  intro C i v s mc Q E hn hp hQ
  obtain ⟨T, a, b, rfl, hT⟩ := hP i v s.heap hp
  refine wpAny_assign_Tuple hh hT rfl rfl fun h₁ hx₁ => ?_
  replace hx₁ : Heap.ExtBut s.heap.objs.size s.heap h₁ := hx₁
  have old₁ : ∀ b o, s.heap.get? b = some o → h₁.get? b = some o := fun b o e => hx₁ b o (Nat.ne_of_lt (Heap.lt_size e)) e
  refine wpAny_bind (wpAny_holding (wpAny_assign_Name (wpAny_storeName_local (lookup_relabel_local hxa) (hn.at' fun o e => old₁ _ o e) (fun h₂ hn₂ hs₂ => ?_) (by simp [compEnvC, relabel, hkind]))))
  replace hs₂ : Heap.SameBut C h₁ h₂ := hs₂
  refine wpAny_bind (wpAny_holding (wpAny_assign_Name (wpAny_storeName_local (lookup_relabel_local hxb) hn₂ (fun h₃ hn₃ hs₃ => wpAny_pure ?_) (by simp [compEnvC, relabel, hkind]))))
  replace hs₃ : Heap.SameBut C h₂ h₃ := hs₃
  exact hQ h₃ _ _ hn₃ ⟨s.heap, T, a, b, hp, rfl, hT, by simp [hab], by simp⟩ fun b o hb e => hs₃.extBut b o hb (hs₂.extBut b o hb (old₁ b o e))
theorem comp_list {x : Str} {px : Pos} {l : Addr} {items : Array Value} {news : Led} (hR : RestOk Rl) (J : Nat → List Value → Led → Prop) (hh : A.handled = none) (hcell : ∀ y ∈ scope.names, y.2 ≠ .cell) (hkind : scope.kind = .function) (hx : scope.names.lookup x = some .local)
    (F : Fr h₀ L s.heap m) (N : News h₀ L s.heap news) (hl : s.heap.IsList l items) (hlL : l ≠ L) (hlen : items.size ≤ 100000) (h0 : J 0 [] news)
    (step : ∀ i v ys mc news₁ s₁ own C wr' (E : Value → Shared → Prop), items[i]? = some v → J i ys news₁ → (∀ p ∈ news₁, p.1 ∉ wr') → (∀ b ∈ wr', s.heap.objs.size ≤ b) → (∀ p ∈ own, p.1 = l ∨ s.heap.objs.size ≤ p.1) → (∀ b ∈ wr', ∃ o, (b, o) ∈ own) → Rl s s₁ →
      Fr h₀ L s₁.heap m → News h₀ L s₁.heap (news₁ ++ own) → s₁.heap.Ns C mc → (∃ o, (C, o) ∈ own) → mc x = some v → s₁.heap.IsList l items →
      wpAny (model prog w) A (testsOf ifs (compEnvC scope cl C env)) (fun ok s₂ => if ok = true then wpAny (model prog w) A (eval elt (compEnvC scope cl C env)) (fun y s₃ => StepC Rl h₀ L m wr' own (J (i + 1) (ys ++ [y])) s s₃) E s₂
        else StepC Rl h₀ L m wr' own (J (i + 1) ys) s s₂) E s₁)
    (rest : ∀ ys nn news' s' Dl, Rl s s' → Fr h₀ L s'.heap m → News h₀ L s'.heap ((Dl, W.listOf ys.toArray nn) :: news') → (∀ p ∈ news', p.1 ≠ Dl) → J items.size ys news' → Q (.ref Dl) s') :
    wpAny (model prog w) A (pyIter (.ref l)) (CompBody prog w A elt (.Name x px) iter ifs scope pos cl env Q E) E s := by
  refine wpAny_pyIter_list hl ?_
  have hlt : l < s.heap.objs.size := let ⟨_, e, _⟩ := hl; Heap.lt_size e
  have hLs : L < s.heap.objs.size := F.ns.lt
  have hk : ∀ b o, s.heap.get? b = some o → (s.heap.push { cls := .type "list_iterator", data := .fields #[.ref l, .int 0 0] }).get? b = some o := fun b o e => Heap.get?_push_of_some _ e
  have hsz : (s.heap.push { cls := .type "list_iterator", data := .fields #[.ref l, .int 0 0] }).objs.size = s.heap.objs.size + 1 := Heap.size_push ..
  refine comp_core (s := { s with heap := s.heap.push { cls := .type "list_iterator", data := .fields #[.ref l, .int 0 0] } }) hR (turnsList hh (Nat.ne_of_lt hlt) fun v hv => GoList.name) (fun s Q E st hQ => wpAny_pyIter_listiter st.1 hQ)
    (fun i h st b hb => by
      obtain rfl : b = s.heap.objs.size := by simpa using hb
      obtain ⟨o, e, _⟩ := st.1
      exact ⟨o, e⟩) hcell hkind (fun _ v mc h => mc x = some v) (asg_name (P := fun i v _ => items[i]? = some v) hkind hx) ?_ ?_ ?_ ?_ ?_ (F.kept hk) (N.keepsAll hk) hlen J h0 ?_ ?_
  · intro b hb
    rw [hsz]
    have hb' : b = s.heap.objs.size ∨ b = l := by simpa using hb
    rcases hb' with rfl | rfl
    · exact Nat.lt_succ_self _
    · exact Nat.lt_succ_of_lt hlt
  · simp only [List.mem_cons, List.not_mem_nil, or_false]
    rintro (e | e)
    · exact Nat.ne_of_lt hLs e
    · exact hlL e.symm
  · intro b hb
    obtain rfl : b = s.heap.objs.size := by simpa using hb
    exact fr_new F (Nat.le_refl _)
  · intro p hp hb
    exact Nat.ne_of_lt (Heap.lt_size (N p hp).1) (by simpa using hb)
  · exact ⟨⟨_, Heap.get?_push_size _ rfl, rfl, rfl⟩, hl.at fun o e => hk l o e⟩
  · intro i v ys mc news₁ s₁ own C wr' E' hi hP hJ ha hw how hmo hr F₁ N₁ hn hCo hb hst
    obtain ⟨_, hP⟩ := hP
    refine wpAny_mono (step i v ys mc news₁ s₁ own C wr' E' hP hJ ha (fun b hb => ?_) (fun p hp => ?_) hmo (hR.trans (hR.step _ _ _) hr) F₁ N₁ hn hCo hb hst.2) (fun ok s₂ h₂ => ?_) fun _ _ e => e
    · rcases hw b hb with h | h
      · rw [hsz] at h; exact Nat.le_of_succ_le h
      · exact Nat.le_of_eq (by simpa using h : b = s.heap.objs.size).symm
    · rcases how p hp with h | h
      · have hb' : p.1 = s.heap.objs.size ∨ p.1 = l := by simpa using h
        rcases hb' with e | e
        · exact .inr (Nat.le_of_eq e.symm)
        · exact .inl e
      · rw [hsz] at h; exact .inr (Nat.le_of_succ_le h)
    · cases ok with
      | true =>
        simp only [if_true] at h₂ ⊢
        exact wpAny_mono h₂ (fun y s₃ h₃ => step_back (tk := s.toks) hR h₃) fun _ _ e => e
      | false =>
        simp only [Bool.false_eq_true, if_false] at h₂ ⊢
        exact step_back (tk := s.toks) hR h₂
  · intro ys nn news' s' Dl hr F' N' ha hJ
    exact rest ys nn news' s' Dl (hR.trans (hR.step _ _ _) hr) F' N' ha hJ
theorem comp_listH {x : Str} {px : Pos} {l : Addr} {items : Array Value} {news : Led} (J : Nat → List Value → Led → Prop) (hh : A.handled = none) (hcell : ∀ y ∈ scope.names, y.2 ≠ .cell) (hkind : scope.kind = .function) (hx : scope.names.lookup x = some .local)
    (F : Fr h₀ L s.heap m) (N : News h₀ L s.heap news) (hl : s.heap.IsList l items) (hlL : l ≠ L) (hlen : items.size ≤ 100000) (h0 : J 0 [] news)
    (step : ∀ i v ys mc news₁ h₁ tk₁ own C wr' (E : Value → Shared → Prop), items[i]? = some v → J i ys news₁ → (∀ p ∈ news₁, p.1 ∉ wr') → (∀ b ∈ wr', s.heap.objs.size ≤ b) → (∀ p ∈ own, p.1 = l ∨ s.heap.objs.size ≤ p.1) → (∀ b ∈ wr', ∃ o, (b, o) ∈ own) →
      Fr h₀ L h₁ m → News h₀ L h₁ (news₁ ++ own) → h₁.Ns C mc → (∃ o, (C, o) ∈ own) → mc x = some v → h₁.IsList l items →
      wpAny (model prog w) A (testsOf ifs (compEnvC scope cl C env)) (fun ok s₂ => if ok = true then wpAny (model prog w) A (eval elt (compEnvC scope cl C env)) (fun y s₃ => StepC HT h₀ L m wr' own (J (i + 1) (ys ++ [y])) s s₃) E s₂
        else StepC HT h₀ L m wr' own (J (i + 1) ys) s s₂) E { s with heap := h₁, toks := tk₁ })
    (rest : ∀ ys nn news' h' tk' Dl, Fr h₀ L h' m → News h₀ L h' ((Dl, W.listOf ys.toArray nn) :: news') → (∀ p ∈ news', p.1 ≠ Dl) → J items.size ys news' → Q (.ref Dl) { s with heap := h', toks := tk' }) :
    wpAny (model prog w) A (pyIter (.ref l)) (CompBody prog w A elt (.Name x px) iter ifs scope pos cl env Q E) E s :=
  comp_list restHT J hh hcell hkind hx F N hl hlL hlen h0 (fun i v ys mc n₁ s₁ own C wr' E' a b c d e f r F N g1 g2 g3 g4 => let ⟨h, tk, q⟩ := r; by subst q; exact step i v ys mc n₁ h tk own C wr' E' a b c d e f F N g1 g2 g3 g4) (fun ys nn n' s' Dl r F N d j => let ⟨h, tk, q⟩ := r; by subst q; exact rest ys nn n' h tk Dl F N d j)
end
end SN9
section SP1
set_option synthInstance.maxHeartbeats 400000
set_option synthInstance.maxSize 4096
open PySem PySem.W PyProof.Rows
local macro_rules | `(tactic| walk_at "PAD0") => `(tactic| skip)
/-! the plain law on steps: a step is a tie's lower place and whether it goes up -/
def climbN (ps : List Nat) : Nat → Nat → List Nat
  | 0, k => [k]
  | n + 1, k => if k = 0 then [0] else k :: climbN ps n (ps.getD k 0)
abbrev Stp := Nat × Bool
def flipS (s : Stp) : Stp := (s.1, !s.2)
def wayS (as bs : List Nat) : List Stp := (as.dropLast.filter fun z => !bs.contains z).map (fun k => (k, true)) ++ ((bs.dropLast.filter fun z => !as.contains z).reverse).map (fun k => (k, false))
def pushS (l : List Stp) (s : Stp) : List Stp := if l.getLast? = some (flipS s) then l.dropLast else l ++ [s]
def pushAll (l part : List Stp) : List Stp := part.foldl pushS l
abbrev tree (a b c : Nat) : List Nat := [0, 0, a, b, c]
abbrev chN (ps : List Nat) (k : Nat) : List Nat := climbN ps k k
abbrev wayN (ps : List Nat) (i j : Nat) : List Stp := wayS (chN ps i) (chN ps j)
def srcS (ps : List Nat) (s : Stp) : Nat := if s.2 then s.1 else ps.getD s.1 0
def dstS (ps : List Nat) (s : Stp) : Nat := if s.2 then ps.getD s.1 0 else s.1
def leadsTo (ps : List Nat) : Nat → List Stp → Nat → Bool
  | i, [], j => i == j
  | i, s :: r, j => srcS ps s == i && decide (0 < s.1) && decide (s.1 < 5) && leadsTo ps (dstS ps s) r j
def cntS (k : Nat) (l : List Stp) : Int := (l.map fun s => if s.1 = k then (if s.2 then (1 : Int) else -1) else 0).sum
def phi (ps : List Nat) (k i : Nat) : Int := if (chN ps i).contains k then 1 else 0
theorem t_triples : ∀ a < 2, ∀ b < 3, ∀ c < 4, ∀ i < 5, ∀ j < 5, ∀ k < 5, pushAll (wayN (tree a b c) i j) (wayN (tree a b c) j k) = wayN (tree a b c) i k := by decide +kernel
theorem t_turn : ∀ a < 2, ∀ b < 3, ∀ c < 4, ∀ i < 5, ∀ j < 5, ((wayN (tree a b c) i j).reverse.map flipS) = wayN (tree a b c) j i := by decide +kernel
theorem t_leads : ∀ a < 2, ∀ b < 3, ∀ c < 4, ∀ i < 5, ∀ j < 5, leadsTo (tree a b c) i (wayN (tree a b c) i j) j = true := by decide +kernel
theorem t_cnt : ∀ a < 2, ∀ b < 3, ∀ c < 4, ∀ i < 5, ∀ j < 5, ∀ k < 5, 0 < k → cntS k (wayN (tree a b c) i j) = phi (tree a b c) k i - phi (tree a b c) k j := by decide +kernel
theorem t_self (l : List Nat) : wayS l l = [] := by
  unfold wayS
  rw [show (l.dropLast.filter fun z => !l.contains z) = [] from by
    rw [List.filter_eq_nil_iff]
    intro z hz
    simp [List.dropLast_subset _ hz]]
  rfl
def weight (ps : List Nat) (v x : Nat) : Int :=
  (if v = 0 then 0 else phi ps v x) - ((if ps.getD 1 0 = v then phi ps 1 x else 0) + (if ps.getD 2 0 = v then phi ps 2 x else 0) + (if ps.getD 3 0 = v then phi ps 3 x else 0) + (if ps.getD 4 0 = v then phi ps 4 x else 0))
theorem t_weight : ∀ a < 2, ∀ b < 3, ∀ c < 4, ∀ v < 5, ∀ x < 5, weight (tree a b c) v x = (if x = v then 1 else 0) - (if v = 0 then 1 else 0) := by decide +kernel
end SP1
section SP2
local macro_rules | `(tactic| walk_at "PAD0") => `(tactic| skip)
def partS (ps : List Nat) (g : Nat → Nat) (s : Stp) : List Stp :=
  if s.2 then wayN ps (g s.1) (g (ps.getD s.1 0)) else (wayN ps (g s.1) (g (ps.getD s.1 0))).reverse.map flipS
theorem par_lt {a b c : Nat} (ha : a < 2) (hb : b < 3) (hc : c < 4) : ∀ k, (tree a b c).getD k 0 < 5 := by
  intro k
  match k with
  | 0 | 1 => show 0 < 5; omega
  | 2 => show a < 5; omega
  | 3 => show b < 5; omega
  | 4 => show c < 5; omega
  | k + 5 => show 0 < 5; omega
theorem walk_steps {a b c : Nat} (ha : a < 2) (hb : b < 3) (hc : c < 4) {g : Nat → Nat} (hg : ∀ k < 5, g k < 5) : ∀ (ss : List Stp) (i j x : Nat), leadsTo (tree a b c) i ss j = true → i < 5 → x < 5 →
    ss.foldl (fun l s => pushAll l (partS (tree a b c) g s)) (wayN (tree a b c) x (g i)) = wayN (tree a b c) x (g j)
  | [], i, j, x, h, hi, hx => by
    have : i = j := by simpa [leadsTo] using h
    rw [this]; rfl
  | s :: r, i, j, x, h, hi, hx => by
    simp only [leadsTo, Bool.and_eq_true, beq_iff_eq, decide_eq_true_eq] at h
    obtain ⟨⟨⟨h1, h2⟩, h3⟩, h4⟩ := h
    have hd : dstS (tree a b c) s < 5 := by
      unfold dstS; split
      · exact par_lt ha hb hc _
      · exact h3
    rw [List.foldl_cons]
    have e : pushAll (wayN (tree a b c) x (g i)) (partS (tree a b c) g s) = wayN (tree a b c) x (g (dstS (tree a b c) s)) := by
      have hp := par_lt ha hb hc s.1
      unfold partS
      unfold srcS at h1
      unfold dstS at hd ⊢
      split
      · rename_i hs
        rw [if_pos hs] at h1
        rw [h1, t_triples a ha b hb c hc x hx (g i) (hg i hi) _ (hg _ (h1 ▸ hp))]
      · rename_i hs
        rw [if_neg hs] at h1
        rw [t_turn a ha b hb c hc _ (hg _ h3) _ (hg _ hp), h1, t_triples a ha b hb c hc x hx (g i) (hg i hi) _ (hg _ h3)]
    rw [e]
    exact walk_steps ha hb hc hg r _ j x h4 hd hx
theorem walked_steps {a b c : Nat} (ha : a < 2) (hb : b < 3) (hc : c < 4) {g : Nat → Nat} (hg : ∀ k < 5, g k < 5) {i j : Nat} (hi : i < 5) (hj : j < 5) :
    (wayN (tree a b c) i j).foldl (fun l s => pushAll l (partS (tree a b c) g s)) [] = wayN (tree a b c) (g i) (g j) := by
  have := walk_steps ha hb hc hg (wayN (tree a b c) i j) i j (g i) (t_leads a ha b hb c hc i hi j hj) hi (hg i hi)
  rwa [show wayN (tree a b c) (g i) (g i) = [] from t_self _] at this
theorem at5 (F : Nat → Int) : ∀ p < 5, (if p = 0 then F 0 else 0) + (if p = 1 then F 1 else 0) + (if p = 2 then F 2 else 0) + (if p = 3 then F 3 else 0) + (if p = 4 then F 4 else 0) = F p
  | 0, _ => (congrArg (· + 0 + 0 + 0) (Int.add_zero _)).trans (by rw [Int.add_zero, Int.add_zero, Int.add_zero]; rfl)
  | 1, _ => (congrArg (· + 0 + 0 + 0) (Int.zero_add _)).trans (by rw [Int.add_zero, Int.add_zero, Int.add_zero]; rfl)
  | 2, _ => (congrArg (· + 0 + 0) (Int.zero_add _)).trans (by rw [Int.add_zero, Int.add_zero]; rfl)
  | 3, _ => (congrArg (· + 0) (Int.zero_add _)).trans (by rw [Int.add_zero]; rfl)
  | 4, _ => Int.zero_add _
  | n + 5, h => absurd h (Nat.not_lt.mpr (Nat.le_add_left 5 n))
theorem five_lin {p1 p2 p3 p4 q1 q2 q3 q4 a0 a1 a2 a3 a4 b0 b1 b2 b3 b4 c0 c1 c2 c3 c4 d0 d1 d2 d3 d4 f0 f1 f2 f3 f4 : Int}
    (w0 : 0 - (a0 + b0 + c0 + d0) = f0 - 1) (w1 : p1 - (a1 + b1 + c1 + d1) = f1 - 0) (w2 : p2 - (a2 + b2 + c2 + d2) = f2 - 0) (w3 : p3 - (a3 + b3 + c3 + d3) = f3 - 0) (w4 : p4 - (a4 + b4 + c4 + d4) = f4 - 0)
    (h1 : a0 + a1 + a2 + a3 + a4 = q1) (h2 : b0 + b1 + b2 + b3 + b4 = q2) (h3 : c0 + c1 + c2 + c3 + c4 = q3) (h4 : d0 + d1 + d2 + d3 + d4 = q4) :
    p1 - q1 + (p2 - q2) + (p3 - q3) + (p4 - q4) = f0 + f1 + f2 + f3 + f4 - 1 := by lia
theorem fix5 (P : Nat → Prop) [DecidablePred P] : (((List.range 5).filter fun k => decide (P k)).length : Int) = (if P 0 then 1 else 0) + (if P 1 then 1 else 0) + (if P 2 then 1 else 0) + (if P 3 then 1 else 0) + (if P 4 then 1 else 0) := by
  have s : ∀ (l : List Nat) (k : Nat), (((k :: l).filter fun k => decide (P k)).length : Int) = (if P k then 1 else 0) + ((l.filter fun k => decide (P k)).length : Int) := fun l k => by
    by_cases h : P k
    · rw [List.filter_cons_of_pos (by rw [decide_eq_true h]), if_pos h, List.length_cons, Int.natCast_add, Int.add_comm]; rfl
    · rw [List.filter_cons_of_neg (by rw [decide_eq_false h]; exact Bool.noConfusion), if_neg h, Int.zero_add]
  show ((([0, 1, 2, 3, 4] : List Nat).filter fun k => decide (P k)).length : Int) = _
  rw [s, s, s, s, s, ← Int.add_assoc, ← Int.add_assoc, ← Int.add_assoc, ← Int.add_assoc]
  exact Int.add_zero _
theorem trace_steps {a b c : Nat} (ha : a < 2) (hb : b < 3) (hc : c < 4) {g : Nat → Nat} (hg : ∀ k < 5, g k < 5) :
    cntS 1 (wayN (tree a b c) (g 1) (g 0)) + cntS 2 (wayN (tree a b c) (g 2) (g a)) + cntS 3 (wayN (tree a b c) (g 3) (g b)) + cntS 4 (wayN (tree a b c) (g 4) (g c)) =
      (((List.range 5).filter fun k => decide (g k = k)).length : Int) - 1 := by
  have a5 : a < 5 := Nat.lt_of_lt_of_le ha (by decide)
  have b5 : b < 5 := Nat.lt_of_lt_of_le hb (by decide)
  have c5 : c < 5 := Nat.lt_of_lt_of_le hc (by decide)
  rw [t_cnt a ha b hb c hc _ (hg 1 (by decide)) _ (hg 0 (by decide)) 1 (by decide) (by decide), t_cnt a ha b hb c hc _ (hg 2 (by decide)) _ (hg a a5) 2 (by decide) (by decide), t_cnt a ha b hb c hc _ (hg 3 (by decide)) _ (hg b b5) 3 (by decide) (by decide), t_cnt a ha b hb c hc _ (hg 4 (by decide)) _ (hg c c5) 4 (by decide) (by decide), fix5 fun k => g k = k]
  exact five_lin (t_weight a ha b hb c hc 0 (by decide) (g 0) (hg 0 (by decide))) (t_weight a ha b hb c hc 1 (by decide) (g 1) (hg 1 (by decide))) (t_weight a ha b hb c hc 2 (by decide) (g 2) (hg 2 (by decide))) (t_weight a ha b hb c hc 3 (by decide) (g 3) (hg 3 (by decide))) (t_weight a ha b hb c hc 4 (by decide) (g 4) (hg 4 (by decide)))
    (at5 (fun v => phi (tree a b c) 1 (g v)) 0 (by decide)) (at5 (fun v => phi (tree a b c) 2 (g v)) a a5) (at5 (fun v => phi (tree a b c) 3 (g v)) b b5) (at5 (fun v => phi (tree a b c) 4 (g v)) c c5)
end SP2
section U
set_option hygiene false in
local macro_rules | `(tactic| walk_at "MINE fill") => `(tactic| ((have hfill : (fun (_ : W.OpenLaw) (_ : Params → Frag) => True) Challenge.rw_wv0033_01 hd.heap_1 := by (k_fill; trivial)); clear hfill))
set_option hygiene false in
local macro_rules | `(tactic| walk_at "MINE cs") => `(tactic| ((case kA => exact rfl); (case kF => exact rfl); (case kK => assumption); (case k1 => k_asm); (case k2 => k_asm); (case k3 => k_asm); (case k4 => k_asm); (case k5 => k_asm); (case k6 => k_is); (case k7 => k_is); (case k8 => first | ktr_room | exact Nat.le_of_ble_eq_true rfl); (case k9 => first | exact BindsTo.of_eq rfl | exact binds_K (by k_in) rfl (by k_is) rfl rfl rfl)))
set_option hygiene false in
local macro_rules | `(tactic| walk_at "MINE code") => `(tactic| (k_dflt (first
  | (refine' code_def ?k1 ?k2 ?k3 ?k4 ?k5 ?kA ?kF ?kK ?k6 ?k7 ?k8 ?k9 ?kB ?_ ?c2 ?c3 ?c4 ?c5; walk_at "MINE cs"; (case c5 => decide); (case kB => exact locs rfl))
  | (refine' code_defC ?k1 ?k2 ?k3 ?k4 ?k5 ?kA ?kF ?kK ?k6 ?k7 ?k8 ?k9 ?kB ?kD ?_ ?c2 ?c3 ?c4; walk_at "MINE cs"; (case kB => exact rfl); (case kD => decide +kernel))); (case c2 => exact rfl); (case c3 => exact rfl); (case c4 => exact rfl); k_whole))
local macro_rules | `(tactic| walk_at "MINE enter") => `(tactic| (walk_at "MINE fill"; refine wpAny_call ?_; k_dflt (walk_at "MINE code"; (first | (intro PH g' L' h' tk' cells' FG' F' N' Y' B' X' T' l1; (try k_lt l1); k_cells Y'; (try simp only [List.cons_append, List.nil_append] at N'); (try dsimp only); (try k_lift B')) | (intro PG g' L' h' FG' F' N' B' X' T'; (try dsimp only); (try k_lift B'))); (try k_fold))))
set_option hygiene false in
local macro_rules | `(tactic| walk_at "MINE nm") => `(tactic| first | exact rfl | assumption | ((repeat refine (if_neg (by decide)).trans ?_); first | assumption | exact if_pos rfl | exact rfl))
set_option hygiene false in
local macro_rules | `(tactic| walk_at "loadName") => `(tactic| (k_here; k_dflt (refine' ldn ?k1 ?k2 ?_; (case k1 => k_asm); (case k2 => walk_at "MINE nm"); k_whole)))
set_option hygiene false in
local macro_rules | `(tactic| walk_at "eval Name") => `(tactic| (k_here; k_dflt (first
  | ((with_reducible show wpAny _ _ (eval (Expr.Name _ _) (envOf _ _ _ _ _)) _ _ _); refine' ld ?k1 ?k2 ?_; (case k1 => k_asm); (case k2 => walk_at "MINE nm"); k_whole)
  | (refine' nameX_L ?F ?v ?_ ?a ?b; (case F => k_asm); (case a => rfl); (case b => rfl); (case v => walk_at "MINE nm"); k_whole))))
local macro_rules | `(tactic| walk_at "exec While") => `(tactic| walk_at "STOP")
local macro_rules | `(tactic| walk_at "exec For Tuple Call cons nil") => `(tactic| walk_at "STOP")
local macro_rules | `(tactic| walk_at "exec For Tuple Name cons nil") => `(tactic| walk_at "STOP")
local macro_rules | `(tactic| walk_at "exec For Tuple Attribute cons nil") => `(tactic| walk_at "STOP")
local macro_rules | `(tactic| walk_at "exec For Name Call cons nil") => `(tactic| walk_at "STOP")
local macro_rules | `(tactic| walk_at "exec For Name Name cons nil") => `(tactic| walk_at "STOP")
local macro_rules | `(tactic| walk_at "exec For Name Subscript cons nil") => `(tactic| walk_at "STOP")
set_option hygiene false in
local macro_rules | `(tactic| walk_at "LB") => `(tactic| (k_here; (first | (with_reducible show wpAny _ _ _ (fun _ _ => wpAny _ _ _ (Mine.ForBody _ _ _ _ _ _ _ _) _ _) _ _) | (with_reducible show wpAny _ _ _ (fun _ _ => wpAny _ _ _ (Mine.CompBody _ _ _ _ _ _ _ _ _ _ _ _ _) _ _) _ _)); refine Stop.out ?_))
local macro_rules | `(tactic| walk_at "call type:enumerate") => `(tactic| walk_at "LB")
local macro_rules | `(tactic| walk_at "call type:zip") => `(tactic| walk_at "LB")
local macro_rules | `(tactic| walk_at "call type:range") => `(tactic| walk_at "LB")
set_option hygiene false in
local macro_rules | `(tactic| walk_at "pyIter ref") => `(tactic| (k_here; (first | (with_reducible show wpAny _ _ _ (Mine.ForBody _ _ _ _ _ _ _ _) _ _) | (with_reducible show wpAny _ _ _ (Mine.CompBody _ _ _ _ _ _ _ _ _ _ _ _ _) _ _)); refine Stop.out ?_))
local macro_rules | `(tactic| walk_at "newList") => `(tactic| (k_here; k_dflt (refine' newList_S ?k1 ?k2 ?_; (case k1 => k_asm); (case k2 => k_asm); k_whole); intro l' h' eq' F' N' l1; have lr' := l1; (try k_lt l1); (try k_sweep)))
local macro_rules | `(tactic| k_all) => `(tactic| first | assumption | exact fun p hp => Nat.ne_of_lt ((by assumption : ∀ p ∈ _, p.1 < _) p hp))
set_option hygiene false in
local macro_rules | `(tactic| walk_at "MINE data") => `(tactic| all_goals try (first | exact Str.ofString "_" | exact (268 : Nat) | exact Value.none))
section SM1
set_option maxHeartbeats 8000000
def collZ (x y : Str) : Int := b2i (decide (y.cps.toList < x.cps.toList)) - b2i (decide (x.cps.toList < y.cps.toList))
theorem coll_ok (w : World) (x y : Str) (t u : Tok) (news : Led) : Ctr w 340 300 (.ref 45) [.str x t, .str y u] news (fun v news' => (∃ k, v = .int (collZ x y) k) ∧ news' = news) := by
  revert w x y t u news
  intro PK w x y t u news
  intro mean mg mb gd cn cs a ccd cl outer A₀ base h₀ L m s Q E B₀ F₀ X₀ N₀ T₀ hk₀ hret
  walk_at "MINE enter"
  k_steps
  exact hret _ _ _ _ ⟨⟨_, rfl⟩, rfl⟩ (by k_asm) (by k_asm)
def backZ (x : Str) : Str := Txt.swapcase (Txt.item x 0) ++ Txt.slice x (some 1) none
theorem back_ok (w : World) (x : Str) (t : Tok) (news : Led) (h0 : 0 < x.length) (h1 : x.length < 1000) : Ctr w 340 300 (.ref 280) [.str x t] news (fun v news' => (∃ k, v = .str (backZ x) k) ∧ news' = news) := by
  revert w x t news
  intro PK w x t news
  intro h0 h1
  intro mean mg mb gd cn cs a ccd cl outer A₀ base h₀ L m s Q E B₀ F₀ X₀ N₀ T₀ hk₀ hret
  walk_at "MINE enter"
  k_steps
  exact hret _ _ _ _ ⟨⟨_, rfl⟩, rfl⟩ (by k_asm) (by k_asm)
end SM1
section SM2
set_option maxHeartbeats 8000000
local macro_rules | `(tactic| walk_at "PAD0") => `(tactic| skip)
def lead : Nat → List Nat → Nat
  | 0, _ => 0
  | _ + 1, [] => 0
  | n + 1, c :: r => if c = 32 then lead n r + 1 else 0
theorem lead_le : ∀ (n : Nat) (c : List Nat), lead n c ≤ n
  | 0, _ => Nat.le_refl _
  | _ + 1, [] => Nat.zero_le _
  | n + 1, c :: r => by
    unfold lead
    split
    · have := lead_le n r; omega
    · omega
theorem lead_len : ∀ (n : Nat) (c : List Nat), lead n c ≤ c.length
  | 0, _ => Nat.zero_le _
  | _ + 1, [] => Nat.zero_le _
  | n + 1, c :: r => by
    unfold lead
    split
    · have := lead_len n r; simp; omega
    · omega
theorem lead_more : ∀ (n : Nat) (c : List Nat) (i : Nat), i ≤ lead n c → i < n → c[i]? = some 32 → i + 1 ≤ lead n c
  | 0, _, _, _, h, _ => by omega
  | _ + 1, [], _, _, _, e => by simp at e
  | n + 1, c :: r, 0, _, _, e => by
    simp at e
    unfold lead
    rw [if_pos e]; omega
  | n + 1, c :: r, i + 1, h, hn, e => by
    unfold lead at h ⊢
    split at h
    · rename_i hc
      rw [if_pos hc]
      have := lead_more n r i (by omega) (by omega) (by simpa using e)
      omega
    · omega
theorem lead_stop : ∀ (n : Nat) (c : List Nat) (i : Nat) (d : Nat), i ≤ lead n c → c[i]? = some d → d ≠ 32 → lead n c = i
  | 0, _, i, _, h, _, _ => by unfold lead at h ⊢; omega
  | _ + 1, [], _, _, _, e, _ => by simp at e
  | n + 1, c :: r, 0, d, _, e, hd => by
    simp at e
    unfold lead
    rw [if_neg (by omega)]
  | n + 1, c :: r, i + 1, d, h, e, hd => by
    unfold lead at h ⊢
    split at h
    · rename_i hc
      rw [if_pos hc]
      have := lead_stop n r i d (by omega) (by simpa using e) hd
      omega
    · omega
theorem lead_block : ∀ (n : Nat) (c : List Nat) (i : Nat) (d : Nat), c[i]? = some d → d ≠ 32 → lead n c ≤ i
  | 0, _, _, _, _, _ => Nat.zero_le _
  | _ + 1, [], _, _, e, _ => by simp at e
  | n + 1, c :: r, 0, d, e, hd => by
    simp at e
    unfold lead
    rw [if_neg (by omega)]; omega
  | n + 1, c :: r, i + 1, d, e, hd => by
    unfold lead
    split
    · have := lead_block n r i d (by simpa using e) hd
      omega
    · omega
theorem lead_next (n : Nat) (c : List Nat) (h : lead n c < n) (hl : lead n c < c.length) : ∃ d, c[lead n c]? = some d ∧ d ≠ 32 := by
  refine ⟨c[lead n c], List.getElem?_eq_getElem hl, fun e => ?_⟩
  have := lead_more n c (lead n c) (Nat.le_refl _) h (by rw [List.getElem?_eq_getElem hl, e])
  omega
theorem cps_length (x : Str) : x.cps.toList.length = x.length := by simp [Str.length]
theorem item_at {x : Str} {i : Nat} {a : Int} (ha : a = (i : Int)) (h1 : i < x.length) : ∃ d, x.cps.toList[i]? = some d ∧ ((Txt.item x a == Str.ofString " ") = true ↔ d = 32) := by
  subst ha
  have e : i < x.cps.toList.length := by rw [cps_length]; exact h1
  refine ⟨x.cps.toList[i], List.getElem?_eq_getElem e, ?_⟩
  have hs : seqIndex? (i : Int) x.length = some i := by
    unfold seqIndex?
    first
      | (simp; omega)
      | (split <;> simp_all <;> omega)
  have hc : Txt.charAt x (i : Int) = some x.cps.toList[i] := by
    unfold Txt.charAt
    rw [hs]
    simp
  unfold Txt.item
  rw [hc, beq_iff_eq, show Str.ofString " " = Str.mk #[32] from by decide +kernel]
  simp
theorem int_left {L j : Nat} (h : j < L) : (L : Int) - 1 - j = ((L - 1 - j : Nat) : Int) := by omega
theorem item_atR {x : Str} {j : Nat} (h1 : j < x.length) : ∃ d, x.cps.toList.reverse[j]? = some d ∧ ((Txt.item x ((x.length : Int) - 1 - j) == Str.ofString " ") = true ↔ d = 32) := by
  have e : x.length - 1 - j < x.length := by omega
  obtain ⟨d, h, q⟩ := item_at (int_left h1) e
  refine ⟨d, ?_, q⟩
  rw [List.getElem?_reverse (by rw [cps_length]; exact h1), cps_length]
  exact h
theorem nz_succ (b : Nat) : ¬ ((b + 1 : Nat) : Int) = 0 := by omega
theorem pred_succ (b : Nat) : ((b + 1 : Nat) : Int) - 1 = (b : Int) := by omega
theorem left_more (L : Int) (j : Nat) : L - 1 - (j : Int) - 1 = L - 1 - ((j + 1 : Nat) : Int) := by omega
theorem nn_left {L j : Nat} (h : j < L) : 0 ≤ (L : Int) - 1 - j := by omega
theorem lt_left (L j : Nat) : (L : Int) - 1 - j < (L : Int) := by omega
theorem ar1 {i N l : Nat} (h : i + 0 = N) (a : i ≤ l) (b : l ≤ N) : i = l := by omega
theorem ar2 {i b N l X : Nat} (h : i + (b + 1) = N) (a : i ≤ l) (p : l = N ∨ l < X) (q : l ≤ X) (r : l ≤ N) : i < X := by omega
theorem ar3 {i b N : Nat} (h : i + (b + 1) = N) : i < N := by omega
theorem ar4 {i b N : Nat} (h : i + (b + 1) = N) : i + 1 + b = N := by omega
theorem ar5 {i b N l : Nat} (h : i + (b + 1) = N) (e : l = i) : b + 1 = N - l := by omega
theorem ar6 {N l X r : Nat} (h : l < N) (p : l = N ∨ l < X) : l < X := by omega
def stripZ (n : Nat) (x : Str) : Str :=
  Txt.slice x (some (lead n x.cps.toList : Int)) (some ((x.length : Int) - lead (n - lead n x.cps.toList) x.cps.toList.reverse))
theorem strip_end {x : Str} {N l r : Nat} (hl : lead N x.cps.toList = l) (hll : l ≤ x.length) (hp : l = N ∨ l < x.length) (hr : lead (N - l) x.cps.toList.reverse = r) (h : l < N) : r + l + 1 ≤ x.length := by
  have hlen : l < x.length := ar6 (r := r) h hp
  obtain ⟨d, hd, hd32⟩ := lead_next N x.cps.toList (by omega) (by rw [cps_length]; omega)
  rw [hl] at hd
  have := lead_block (N - l) x.cps.toList.reverse (x.length - 1 - l) d (by rw [List.getElem?_reverse (by rw [cps_length]; omega), cps_length, ← hd]; congr 1; omega) hd32
  omega
theorem ar7 {j b N l r X : Nat} (h : j + (b + 1) = N - l) (a : j ≤ r) (p : l < N → r + l + 1 ≤ X) : j < X :=
  Nat.lt_of_lt_of_le (Nat.lt_succ_of_le (Nat.le_trans a (Nat.le_add_right r l))) (p (Nat.lt_of_sub_pos (h ▸ Nat.succ_pos _)))
theorem z_le {i b N : Nat} {z : Int} (h : i + (b + 1) = N) (hN : N < 1000) (hz : ((b + 1 : Nat) : Int) = z) : z ≤ 1000 := hz ▸ Int.ofNat_le.mpr (Nat.le_trans (Nat.le_add_left _ i) (Nat.le_trans (Nat.le_of_eq h) (Nat.le_of_lt hN)))
theorem strip_ok (w : World) (x : Str) (n : Int) (t u : Tok) (news : Led) (hx : x.length < 1000) (h0 : 0 ≤ n) (hn : n < 1000) (hp : lead n.toNat x.cps.toList = n.toNat ∨ lead n.toNat x.cps.toList < x.cps.toList.length) : Ctr w 360 400 (.ref 52) [.str x t, .int n u] news (fun v news' => (∃ k, v = .str (stripZ n.toNat x) k) ∧ news' = news) := by
  revert w x n t u news
  intro PK w x n t u news
  intro hx h0 hn hp
  intro mean mg mb gd cn cs a ccd cl outer A₀ base h₀ L m s Q E B₀ F₀ X₀ N₀ T₀ hk₀ hret
  walk_at "MINE enter"
  rename Fr _ _ _ (fun y => List.lookup y _) => Fe
  change Fr _ _ _ (fun y => List.lookup y [(Str.ofString "amount", .int n u), (Str.ofString "s", .str x t)]) at Fe
  have hln := lead_le n.toNat x.cps.toList
  have hll := lead_len n.toNat x.cps.toList
  rw [cps_length] at hll hp
  have hnn : n = (n.toNat : Int) := (Int.toNat_of_nonneg h0).symm
  have hN : n.toNat < 1000 := by omega
  generalize hNd : n.toNat = N at hll hp hln hnn hret hN
  generalize hl : lead N x.cps.toList = l at hln hll hp
  k_steps
  refine ⟨?_⟩
  refine' While_cut (fun k m nx => nx = news ∧ m (Str.ofString "s") = some (.str x t) ∧ ∃ (i b : Nat) (ta tb : Tok), m (Str.ofString "lpos") = some (.int i ta) ∧ m (Str.ofString "amount") = some (.int b tb) ∧ i ≤ l ∧ i + b = N ∧ k = b)
    (fun m nx => nx = news ∧ m (Str.ofString "s") = some (.str x t) ∧ ∃ ta tb, m (Str.ofString "lpos") = some (.int l ta) ∧ m (Str.ofString "amount") = some (.int (N - l : Nat) tb)) ?F ?N ?J ?turn ?_ ?E
  case F => k_asm
  case N => k_asm
  case E => passes_own
  case J => exact ⟨rfl, by walk_at "MINE nm", 0, N, _, _, by walk_at "MINE nm", by rw [← hnn]; walk_at "MINE nm", Nat.zero_le _, Nat.zero_add _, rfl⟩
  case turn =>
    intro k m₁ nx h₁ tk₁ F₁ N₁ z1q
    obtain ⟨hnx, hs, i, b, ta, tb, hma, hmb, hil, hib, hk9⟩ := z1q
    subst hnx hk9
    rcases k with _ | b
    · have e1 := ar1 hib hil hln
      subst e1
      change _ = some (Value.int 0 tb) at hmb
      k_steps
      exact ⟨_, _, _, _, rfl, by k_asm, by k_asm, rfl, hs, ta, tb, hma, by rw [← hib, Nat.add_zero, Nat.sub_self]; exact hmb⟩
    · have hin := ar3 hib
      have hix := ar2 hib hil hp hll hln
      have hb := nz_succ b
      obtain ⟨d, hd, hd32⟩ := item_at (x := x) rfl hix
      have hge : (0 : Int) ≤ (i : Int) := Int.natCast_nonneg i
      have hlt : (i : Int) < (x.length : Int) := Int.ofNat_lt.mpr hix
      have hpz := pred_succ b
      generalize hz : ((b + 1 : Nat) : Int) = z at hmb hb hpz
      generalize hy : (i : Int) = y at hma hge hlt hd32
      have hz3 := z_le hib hN hz
      k_steps
      · have hit : (Txt.item x y == Str.ofString " ") = true := by assumption
        have hl1 := lead_more N x.cps.toList i (by rw [hl]; exact hil) hin (by rw [hd, hd32.mp hit])
        rw [hl] at hl1
        subst hy
        exact ⟨.inl rfl, _, _, _, _, b, rfl, by k_asm, by k_asm, Nat.lt_succ_self b, rfl, by walk_at "MINE nm", i + 1, b, _, _, by walk_at "MINE nm", by rw [← hpz]; walk_at "MINE nm", hl1, ar4 hib, rfl⟩
      · have hit : (Txt.item x y == Str.ofString " ") = false := by assumption
        have hl1 := lead_stop N x.cps.toList i d (by rw [hl]; exact hil) hd (fun e => by rw [hd32.mpr e] at hit; cases hit)
        rw [hl] at hl1
        subst hl1 hy
        exact ⟨_, _, _, _, rfl, by k_asm, by k_asm, rfl, hs, ta, tb, hma, by rw [← ar5 hib rfl, hz]; exact hmb⟩
      all_goals (exfalso; simp_all)
  intro m₁ nx0 h₁ tk₁ F₁ N₁ z2q
  obtain ⟨hnx, hs, tl, tb, hml, hmb⟩ := z2q
  subst hnx
  k_steps
  refine ⟨?_⟩
  generalize hr : lead (N - l) x.cps.toList.reverse = r
  have hrn := lead_le (N - l) x.cps.toList.reverse
  rw [hr] at hrn
  have hrb := strip_end hl hll hp hr
  refine' While_cut (fun k m nx => nx = nx0 ∧ m (Str.ofString "s") = some (.str x t) ∧ m (Str.ofString "lpos") = some (.int l tl) ∧ ∃ (j b : Nat) (ta tb : Tok), m (Str.ofString "rpos") = some (.int ((x.length : Int) - 1 - j) ta) ∧ m (Str.ofString "amount") = some (.int b tb) ∧ j ≤ r ∧ j + b = N - l ∧ k = b)
    (fun m nx => nx = nx0 ∧ m (Str.ofString "s") = some (.str x t) ∧ m (Str.ofString "lpos") = some (.int l tl) ∧ ∃ ta, m (Str.ofString "rpos") = some (.int ((x.length : Int) - 1 - r) ta)) ?F ?N ?J ?turn ?_ ?E
  case F => k_asm
  case N => k_asm
  case E => passes_own
  case J => exact ⟨rfl, by walk_at "MINE nm", by walk_at "MINE nm", 0, N - l, _, _, by rw [show (x.length : Int) - 1 - ((0 : Nat) : Int) = (x.length : Int) - 1 from Int.sub_zero _]; walk_at "MINE nm", by walk_at "MINE nm", Nat.zero_le _, Nat.zero_add _, rfl⟩
  case turn =>
    intro k m₁ nx h₁ tk₁ F₁ N₁ z3q
    obtain ⟨hnx, hs, hml, j, b, ta, tb, hma, hmb, hjr, hjb, hk9⟩ := z3q
    subst hnx hk9
    rcases k with _ | b
    · have e1 := ar1 hjb hjr hrn
      subst e1
      change _ = some (Value.int 0 tb) at hmb
      k_steps
      exact ⟨_, _, _, _, rfl, by k_asm, by k_asm, rfl, hs, hml, ta, hma⟩
    · have hjn := ar3 hjb
      have hjx := ar7 hjb hjr hrb
      have hb := nz_succ b
      obtain ⟨d, hd, hd32⟩ := item_atR hjx
      have hge := nn_left hjx
      have hlt := lt_left x.length j
      have hpz := pred_succ b
      have hyz := left_more (x.length : Int) j
      generalize hz : ((b + 1 : Nat) : Int) = z at hmb hb hpz
      generalize hy : (x.length : Int) - 1 - (j : Int) = y at hma hge hlt hd32 hyz
      have hz3 := z_le hjb (Nat.lt_of_le_of_lt (Nat.sub_le ..) hN) hz
      k_steps
      · have hit : (Txt.item x y == Str.ofString " ") = true := by assumption
        have hl1 := lead_more (N - l) x.cps.toList.reverse j (by rw [hr]; exact hjr) hjn (by rw [hd, hd32.mp hit])
        rw [hr] at hl1
        exact ⟨.inl rfl, _, _, _, _, b, rfl, by k_asm, by k_asm, Nat.lt_succ_self b, rfl, by walk_at "MINE nm", by walk_at "MINE nm", j + 1, b, _, _, by rw [← hyz]; walk_at "MINE nm", by rw [← hpz]; walk_at "MINE nm", hl1, ar4 hjb, rfl⟩
      · have hit : (Txt.item x y == Str.ofString " ") = false := by assumption
        have hl1 := lead_stop (N - l) x.cps.toList.reverse j d (by rw [hr]; exact hjr) hd (fun e => by rw [hd32.mpr e] at hit; cases hit)
        rw [hr] at hl1
        subst hl1 hy
        exact ⟨_, _, _, _, rfl, by k_asm, by k_asm, rfl, hs, hml, ta, hma⟩
      all_goals (exfalso; simp_all)
  intro m₁ nx h₁ tk₁ F₁ N₁ z4q
  obtain ⟨hnx, hs, hml, ta, hma⟩ := z4q
  subst hnx
  replace F₁ := F₁
  replace N₁ := id N₁
  k_steps
  have e : stripZ N x = Txt.slice x (some ↑l) (some (↑x.length - 1 - ↑r + 1)) := by
    unfold stripZ
    rw [hl, hr]
    congr 2
    omega
  exact hret _ _ _ _ ⟨⟨_, by rw [e]⟩, rfl⟩ (by k_asm) (by k_asm)
end SM2
section SM21
set_option maxHeartbeats 2000000
abbrev listObj (ts : List (Str × Tok)) (n : Nat) : Obj := { cls := .type "list", data := .seq (strValues ts).toArray n }
theorem flat_filter {α β : Type} (f : α → Option β) : ∀ l : List α, (l.flatMap fun x => (f x).toList) = l.filterMap f
  | [] => rfl
  | x :: l => by
    rw [List.flatMap_cons, flat_filter f l, List.filterMap_cons]
    cases f x <;> rfl
theorem led_okF (w : World) {S c dd d l : Addr} {t₁ t₂ : Tok} {fv : Str → Option Value} {F : Str → Option Str} {ps : List (Str × Tok)} {news : Led} (hS : Sure news (fun h => IsLead h S)) (hctx : Sure news (fun h => IsCtx w h c dd d t₁ t₂)) (hm : Sure news (fun h => h.MapOf (PySem.strKind Challenge.pw_wv0033_01 w) d fv)) (hl : Sure news (fun h => h.IsList l (strValues ps).toArray))
    (hfv : FvIs fv F) (hds : (d == sysModules) = false) (hlen : ps.length ≤ 1000) :
    CtrN w 320 250 (.ref 249) [.ref S, .ref c, .ref l] news (fun v news' => ∃ a ts n, v = .ref a ∧ news' = (a, listObj ts n) :: news ∧ ts.map (·.1) = (ps.filterMap fun p => F p.1) ∧ ∀ p ∈ news, p.1 ≠ a) := by
  revert w S c dd d l t₁ t₂ fv F ps news
  intro PK w S c dd d l t₁ t₂ fv F ps news
  intro hS hctx hm hl hfv hds hlen
  intro mean mg mb gd cn cs a ccd cl outer A₀ base h₀ L m s Q E B₀ F₀ X₀ N₀ T₀ hk₀ hret
  walk_at "MINE enter"
  rename_i g' L' h₁ tk₁ FG F' B X T l1 o1 o2 d1 d2 N
  have H := has_of N
  have Hn : Has h₁ news := fun p hp => H p (List.mem_cons_of_mem _ (List.mem_cons_of_mem _ hp))
  have c1 : h₁.IsCell (L' + 1 + 1) (some (.ref c)) := ⟨o1, H (L' + 1 + 1, o1) (List.mem_cons_self ..), d1.trans (by kernel_rfl)⟩
  have c2 : h₁.IsCell (L' + 1) (some (.ref S)) := ⟨o2, H (L' + 1, o2) (List.mem_cons_of_mem _ (List.mem_cons_self ..)), d2.trans (by kernel_rfl)⟩
  clear d1 d2
  k_steps
  refine comp2_led (D := 345) (U := 420) (l := l) (ps := ps) (outsf := fun z => (F z).toList) rfl (by show 320 + 1 ≤ 345; decide) (by show 250 + 3 ≤ 420; decide) rfl (by decide) rfl (by decide) rfl rfl (by decide) (fun _ => rfl) (fun _ _ => rfl) ?_ (hl _ Hn) hlen (fun z => by cases F z <;> simp) ?_ ?_
  · intro Q E h
    exact name_ok rfl rfl F'.ns (by kernel_rfl) h
  · intro C s' z t m' Q E fC hC G hn hx hz hQ
    refine inner_led (kl := L' + 1) (kc := L' + 1 + 1) (s := { s with heap := h₁, toks := tk₁ }) ?_ rfl rfl rfl rfl rfl rfl c2 c1 (hS _ Hn) F' X T (hctx _ Hn) (hm _ Hn) hfv hds G hn hx hQ
    show 320 + 1 < recursionLimit
    decide
  · intro Dl s' ts fD G ht hp
    obtain ⟨n, hp⟩ := hp
    have N1 : News g' L' s'.heap ((Dl, listObj ts n) :: news) := news_add F' (fun p hp => N p (List.mem_cons_of_mem _ (List.mem_cons_of_mem _ hp))) G.keep fD hp
    walk_at "QK"
    refine leaveK_ (F'.kept G.keep) N1 fun F N => hret _ _ _ ⟨Dl, ts, n, rfl, rfl, ?_, ?_⟩ ?_ F N
    · rw [ht]; exact flat_filter _ ps
    · intro p hp9 e9
      have q9 := Hn p hp9
      rw [e9, fD] at q9
      cases q9
    · exact ⟨G.bare, G.drawn, G.os⟩
theorem led_ok (w : World) {S c dd d l : Addr} {t₁ t₂ : Tok} {fv : Str → Option Value} {F : Str → Option Str} {ps : List (Str × Tok)} {news : Led} (hS : Sure news (fun h => IsLead h S)) (hctx : Sure news (fun h => IsCtx w h c dd d t₁ t₂)) (hm : Sure news (fun h => h.MapOf (PySem.strKind Challenge.pw_wv0033_01 w) d fv)) (hl : Sure news (fun h => h.IsList l (strValues ps).toArray))
    (hfv : FvIs fv F) (hds : (d == sysModules) = false) (hlen : ps.length ≤ 1000) :
    CtrN w 320 250 (.ref 249) [.ref S, .ref c, .ref l] news (fun v news' => ∃ a ts n, v = .ref a ∧ news' = (a, listObj ts n) :: news ∧ ts.map (·.1) = ps.filterMap fun p => F p.1) :=
  (led_okF w hS hctx hm hl hfv hds hlen).mono fun v nx ⟨a, ts, n, h1, h2, h3, _⟩ => ⟨a, ts, n, h1, h2, h3⟩
end SM21
section SM4
set_option maxHeartbeats 8000000
local macro_rules | `(tactic| walk_at "getMethod ref") => `(tactic| (k_here; (with_reducible show wpAny _ _ (getMethod (Value.ref _) (PySem.Str.ofString "search") _) _ _ _); k_dflt (refine' getSearchK ?F ?X ?hp ?_; (case F => k_asm); (case X => k_asm); (case hp => k_is); k_whole)))
local macro_rules | `(tactic| walk_at "call builtin:re.Pattern.search") => `(tactic| (k_here; k_dflt (first
  | ((with_reducible show wpAny _ _ (call _ [Value.ref 65, _]) _ _ _); refine' searchK ?F ?X ?hp ?hc ?code ?hx ?_; (case F => k_asm); (case X => k_asm); (case hp => k_is); (case hc => k_is); (case code => exact .inl (by kernel_rfl)); (case hx => assumption); k_whole)
  | ((with_reducible show wpAny _ _ (call _ [Value.ref 70, _]) _ _ _); refine' searchK ?F ?X ?hp ?hc ?code ?hx ?_; (case F => k_asm); (case X => k_asm); (case hp => k_is); (case hc => k_is); (case code => exact .inr (by kernel_rfl)); (case hx => assumption); k_whole))))
theorem conv_ok (w : World) (o : Value) (x : Str) (t : Tok) (b : Bool) (news : Led) (hx : ∀ d ∈ x.cps.toList, okSign d = true) : CtrK w 340 300 (.ref 92) [o, .str x t] [(Str.ofString "name", .bool b)] news (fun v news' => v = .str x t ∧ news' = news) := by
  revert w o x t b news
  intro PK w o x t b news
  intro hx
  intro mean mg mb gd cn cs a ccd cl outer A₀ base h₀ L m s Q E B₀ F₀ X₀ N₀ T₀ hk₀ hret
  walk_at "MINE enter"
  k_steps
  all_goals exact hret _ _ _ _ ⟨rfl, rfl⟩ (by k_asm) (by k_asm)
end SM4
section SN15
set_option maxHeartbeats 2000000
section
variable {prog : Program} {w : World} {A : Around} {E : Value → Shared → Prop} {s : Shared} {env : Env} {h₀ : Heap} {L : Addr} {m : Str → Option Value} {target elt iter : Expr} {ifs : List Expr} {scope : Scope} {pos : Pos} {cl : List (Str × Addr)} {Rl : Shared → Shared → Prop} {Q : Value → Shared → Prop}
theorem KTurns.guard {I : Addr} {fp wr gp : List Addr} {n : Nat} {P Md : Nat → Value → Heap → Prop} {St : Nat → Heap → Prop} {G : Heap → Prop} (W : KTurns prog w A target I fp wr n P Md St)
    (hG : ∀ h h', G h → (∀ b ∈ gp, ∀ o, h.get? b = some o → h'.get? b = some o) → G h') (hgw : ∀ b ∈ gp, b ∉ wr) :
    KTurns prog w A target I (fp ++ gp) wr n (fun i v h => P i v h ∧ G h) (fun i v h => Md i v h ∧ G h) (fun i h => St i h ∧ G h) where
  sub := fun b hb => List.mem_append_left _ (W.sub b hb)
  frame := fun i h h' st hk => ⟨W.frame i h h' st.1 fun b hb => hk b (List.mem_append_left _ hb), hG h h' st.2 fun b hb => hk b (List.mem_append_right _ hb)⟩
  item := fun i s Q E hi st hQ => W.item i s Q E hi st.1 fun v h' tk hm hk => hQ v h' tk ⟨hm, hG _ _ st.2 fun b hb o e => hk b o (hgw b hb) e⟩ hk
  go := fun i v s Q E hm hQ => W.go i v s Q E hm.1 fun h' hp st hk =>
    have g : G h' := hG _ _ hm.2 fun b hb o e => hk b o (hgw b hb) e
    hQ h' ⟨hp, g⟩ ⟨st, g⟩ hk
  done := fun s Q E st hQ => W.done s Q E st.1 hQ
theorem comp_pairs {xa xb : Str} {pa pb pt : Pos} {kt : Nat} {l : Addr} {ps : List (Addr × Value × Value)} {news : Led} (hR : RestOk Rl) (J : Nat → List Value → Led → Prop) (hh : A.handled = none) (hcell : ∀ y ∈ scope.names, y.2 ≠ .cell) (hkind : scope.kind = .function) (hxa : scope.names.lookup xa = some .local) (hxb : scope.names.lookup xb = some .local) (hab : xa ≠ xb)
    (F : Fr h₀ L s.heap m) (N : News h₀ L s.heap news) (hl : s.heap.IsList l (ps.map fun p => Value.ref p.1).toArray) (hT : ∀ p ∈ ps, s.heap.IsTuple p.1 #[p.2.1, p.2.2]) (hTL : ∀ p ∈ ps, p.1 ≠ L) (hlL : l ≠ L) (hlen : ps.length ≤ 100000) (h0 : J 0 [] news)
    (step : ∀ i p ys mc news₁ s₁ own C wr' (E : Value → Shared → Prop), ps[i]? = some p → J i ys news₁ → (∀ p ∈ news₁, p.1 ∉ wr') → (∀ b ∈ wr', s.heap.objs.size ≤ b) → (∀ q ∈ own, q.1 = l ∨ (∃ p ∈ ps, q.1 = p.1) ∨ s.heap.objs.size ≤ q.1) → (∀ b ∈ wr', ∃ o, (b, o) ∈ own) → Rl s s₁ →
      Fr h₀ L s₁.heap m → News h₀ L s₁.heap (news₁ ++ own) → s₁.heap.Ns C mc → (∃ o, (C, o) ∈ own) → mc xa = some p.2.1 → mc xb = some p.2.2 →
      wpAny (model prog w) A (testsOf ifs (compEnvC scope cl C env)) (fun ok s₂ => if ok = true then wpAny (model prog w) A (eval elt (compEnvC scope cl C env)) (fun y s₃ => StepC Rl h₀ L m wr' own (J (i + 1) (ys ++ [y])) s s₃) E s₂
        else StepC Rl h₀ L m wr' own (J (i + 1) ys) s s₂) E s₁)
    (rest : ∀ ys nn news' s' Dl, Rl s s' → Fr h₀ L s'.heap m → News h₀ L s'.heap ((Dl, W.listOf ys.toArray nn) :: news') → (∀ p ∈ news', p.1 ≠ Dl) → J ps.length ys news' → Q (.ref Dl) s') :
    wpAny (model prog w) A (pyIter (.ref l)) (CompBody prog w A elt (.Tuple [.Name xa pa, .Name xb pb] kt pt) iter ifs scope pos cl env Q E) E s := by
  revert prog w A E s env h₀ L m elt iter ifs scope pos cl Rl Q xa xb pa pb pt kt l ps news J
  intro PK prog w A E s env h₀ L m elt iter ifs scope pos cl Rl Q xa xb pa pb pt kt l ps news
  intro hR
  intro PK J
  intro hh hcell hkind hxa hxb hab F N hl hT hTL hlL hlen h0 step rest
  refine wpAny_pyIter_list hl ?_
  have hlt : l < s.heap.objs.size := let ⟨_, e, _⟩ := hl; Heap.lt_size e
  have hTt : ∀ p ∈ ps, p.1 < s.heap.objs.size := fun p hp => let ⟨_, e, _⟩ := hT p hp; Heap.lt_size e
  have hLs : L < s.heap.objs.size := F.ns.lt
  have hk : ∀ b o, s.heap.get? b = some o → (s.heap.push { cls := .type "list_iterator", data := .fields #[.ref l, .int 0 0] }).get? b = some o := fun b o e => Heap.get?_push_of_some _ e
  have hsz : (s.heap.push { cls := .type "list_iterator", data := .fields #[.ref l, .int 0 0] }).objs.size = s.heap.objs.size + 1 := Heap.size_push ..
  have hn : (ps.map fun p => Value.ref p.1).toArray.size = ps.length := by simp
  have hitem : ∀ {i : Nat} {v : Value}, (ps.map fun p => Value.ref p.1).toArray[i]? = some v → ∃ p, ps[i]? = some p ∧ v = .ref p.1 := fun {i v} e => by
    have e2 : (ps[i]?).map (fun p => Value.ref p.1) = some v := by simpa using e
    cases hp : ps[i]? with
    | none => rw [hp] at e2; cases e2
    | some p => rw [hp] at e2; exact ⟨p, rfl, (Option.some.inj e2).symm⟩
  let G : Heap → Prop := fun h => ∀ p ∈ ps, h.IsTuple p.1 #[p.2.1, p.2.2]
  have W := KTurns.guard (prog := prog) (w := w) (gp := ps.map (·.1)) (G := G) (turnsList (target := .Tuple [.Name xa pa, .Name xb pb] kt pt) hh (I := s.heap.objs.size) (l := l) (Nat.ne_of_lt hlt) (items := (ps.map fun p => Value.ref p.1).toArray) (fun v hv => by
      have z1q : ∃ p ∈ ps, Value.ref p.1 = v := by simpa using hv
      obtain ⟨p, _, rfl⟩ := z1q
      exact GoList.tuple))
    (fun h h' g hk p hp => (g p hp).at fun o e => hk p.1 (List.mem_map_of_mem hp) o e) (fun b hb e => by
      obtain ⟨p, hp, rfl⟩ := List.mem_map.mp hb
      exact Nat.ne_of_lt (hTt p hp) (by simpa using e))
  rw [hn] at W
  refine comp_core (s := { s with heap := s.heap.push { cls := .type "list_iterator", data := .fields #[.ref l, .int 0 0] } }) hR W (fun s Q E st hQ => wpAny_pyIter_listiter st.1.1 hQ)
    (fun i h st b hb => by
      obtain rfl : b = s.heap.objs.size := by simpa using hb
      obtain ⟨o, e, _⟩ := st.1.1
      exact ⟨o, e⟩) hcell hkind _ (asg_pair hh hkind hxa hxb hab (P := fun i v h => (ps.map fun p => Value.ref p.1).toArray[i]? = some v ∧ G h) fun i v h hp => by
        obtain ⟨p, e, rfl⟩ := hitem hp.1
        exact ⟨_, _, _, rfl, hp.2 p (List.mem_of_getElem? e)⟩) ?_ ?_ ?_ ?_ ?_ (F.kept hk) (N.keepsAll hk) hlen J h0 ?_ ?_
  · intro b hb
    rw [hsz]
    simp only [List.mem_append, List.mem_cons, List.not_mem_nil, or_false] at hb
    rcases hb with (rfl | rfl) | hb
    · exact Nat.lt_succ_self _
    · exact Nat.lt_succ_of_lt hlt
    · obtain ⟨p, hp, rfl⟩ := List.mem_map.mp hb
      exact Nat.lt_succ_of_lt (hTt p hp)
  · simp only [List.mem_append, List.mem_cons, List.not_mem_nil, or_false]
    rintro ((e | e) | e)
    · exact Nat.ne_of_lt hLs e
    · exact hlL e.symm
    · obtain ⟨p, hp, rfl⟩ := List.mem_map.mp e
      exact hTL p hp rfl
  · intro b hb
    obtain rfl : b = s.heap.objs.size := by simpa using hb
    exact fr_new F (Nat.le_refl _)
  · intro p hp hb
    exact Nat.ne_of_lt (Heap.lt_size (N p hp).1) (by simpa using hb)
  · exact ⟨⟨⟨_, Heap.get?_push_size _ rfl, rfl, rfl⟩, hl.at fun o e => hk l o e⟩, fun p hp => (hT p hp).at fun o e => hk _ o e⟩
  · intro i v ys mc news₁ s₁ own C wr' E' hi hP hJ ha hw how hmo hr F₁ N₁ hn hCo hb hst
    obtain ⟨h9, T, a, b, ⟨hi9, hg9⟩, rfl, hT9, ea, eb⟩ := hb
    obtain ⟨p, e, e1⟩ := hitem hi9
    cases e1
    have et : (#[a, b] : Array Value) = #[p.2.1, p.2.2] := by
      obtain ⟨o1, x1, x2, x3⟩ := hT9
      obtain ⟨o2, y1, y2, y3⟩ := hg9 p (List.mem_of_getElem? e)
      obtain rfl : o1 = o2 := Option.some.inj (x1.symm.trans y1)
      obtain ⟨n1, x3⟩ := x3
      obtain ⟨n2, y3⟩ := y3
      rw [x3] at y3
      injection y3
    simp only [Array.mk.injEq, List.cons.injEq, and_true] at et
    obtain ⟨rfl, rfl⟩ := et
    refine wpAny_mono (step i p ys mc news₁ s₁ own C wr' E' e hJ ha (fun b hb => ?_) (fun q hq => ?_) hmo (hR.trans (hR.step _ _ _) hr) F₁ N₁ hn hCo ea eb) (fun ok s₂ h₂ => ?_) fun _ _ e => e
    · rcases hw b hb with h | h
      · rw [hsz] at h; exact Nat.le_of_succ_le h
      · exact Nat.le_of_eq (by simpa using h : b = s.heap.objs.size).symm
    · rcases how q hq with h | h
      · simp only [List.mem_append, List.mem_cons, List.not_mem_nil, or_false] at h
        rcases h with (h | h) | h
        · exact .inr (.inr (Nat.le_of_eq h.symm))
        · exact .inl h
        · obtain ⟨p', hp', h⟩ := List.mem_map.mp h
          exact .inr (.inl ⟨p', hp', h.symm⟩)
      · rw [hsz] at h; exact .inr (.inr (Nat.le_of_succ_le h))
    · cases ok with
      | true =>
        simp only [if_true] at h₂ ⊢
        exact wpAny_mono h₂ (fun y s₃ h₃ => step_back (tk := s.toks) hR h₃) fun _ _ e => e
      | false =>
        simp only [Bool.false_eq_true, if_false] at h₂ ⊢
        exact step_back (tk := s.toks) hR h₂
  · intro ys nn news' s' Dl hr F' N' ha hJ
    exact rest ys nn news' s' Dl (hR.trans (hR.step _ _ _) hr) F' N' ha hJ
end
end SN15
section SN16
set_option maxHeartbeats 2000000
section
variable {prog : Program} {w : World} {A : Around} {E : Value → Shared → Prop} {s : Shared} {env : Env} {h₀ : Heap} {L : Addr} {m : Str → Option Value} {target elt iter : Expr} {ifs : List Expr} {scope : Scope} {pos : Pos} {cl : List (Str × Addr)} {Rl : Shared → Shared → Prop} {Q : Value → Shared → Prop}
theorem comp_range {x : Str} {px : Pos} {b : Nat} {u : Tok} {news : Led} (hR : RestOk Rl) (J : Nat → List Value → Led → Prop) (hh : A.handled = none) (hcell : ∀ y ∈ scope.names, y.2 ≠ .cell) (hkind : scope.kind = .function) (hx : scope.names.lookup x = some .local)
    (F : Fr h₀ L s.heap m) (N : News h₀ L s.heap news) (hb : b ≤ 100000) (h0 : J 0 [] news)
    (step : ∀ (i : Nat) t ys mc news₁ s₁ own C wr' (E : Value → Shared → Prop), i < b → J i ys news₁ → (∀ p ∈ news₁, p.1 ∉ wr') → (∀ b ∈ wr', s.heap.objs.size ≤ b) → (∀ q ∈ own, s.heap.objs.size ≤ q.1) → (∀ b ∈ wr', ∃ o, (b, o) ∈ own) → Rl s s₁ →
      Fr h₀ L s₁.heap m → News h₀ L s₁.heap (news₁ ++ own) → s₁.heap.Ns C mc → (∃ o, (C, o) ∈ own) → mc x = some (.int (i : Int) t) →
      wpAny (model prog w) A (testsOf ifs (compEnvC scope cl C env)) (fun ok s₂ => if ok = true then wpAny (model prog w) A (eval elt (compEnvC scope cl C env)) (fun y s₃ => StepC Rl h₀ L m wr' own (J (i + 1) (ys ++ [y])) s s₃) E s₂
        else StepC Rl h₀ L m wr' own (J (i + 1) ys) s s₂) E s₁)
    (rest : ∀ ys nn news' s' Dl, Rl s s' → Fr h₀ L s'.heap m → News h₀ L s'.heap ((Dl, W.listOf ys.toArray nn) :: news') → (∀ p ∈ news', p.1 ≠ Dl) → J b ys news' → Q (.ref Dl) s') :
    wpAny (model prog w) A (call (.type "range") [.int b u]) (fun xv s₁ => wpAny (model prog w) A (pyIter xv) (CompBody prog w A elt (.Name x px) iter ifs scope pos cl env Q E) E s₁) E s := by
  revert prog w A E s env h₀ L m elt iter ifs scope pos cl Rl Q x px b u news J
  intro PK prog w A E s env h₀ L m elt iter ifs scope pos cl Rl Q x px b u news
  intro hR
  intro PK J
  intro hh hcell hkind hx F N hb h0 step rest
  have hLs : L < s.heap.objs.size := F.ns.lt
  refine call_range_1 ?_
  have hr1 : IsRange (s.heap.push { cls := .type "range", data := .fields #[.int 0 s.toks, .int b u, .int 1 (s.toks + 1)] }) s.heap.objs.size 0 b 1 s.toks u (s.toks + 1) := IsRange.new ..
  refine wpAny_pyIter_range hr1 (small_one (by omega) (by omega) (by omega) (by omega)) ?_
  generalize hH1 : s.heap.push { cls := .type "range", data := .fields #[.int 0 s.toks, .int b u, .int 1 (s.toks + 1)] } = H1
  have hs1 : H1.objs.size = s.heap.objs.size + 1 := by rw [← hH1, Heap.size_push]
  have hk : ∀ b' o, s.heap.get? b' = some o → (H1.push { cls := .type "range_iterator", data := .fields #[rawInt 0, rawInt (Builtin.Range.rangeSize 0 b 1), rawInt 1] }).get? b' = some o := fun b' o e => Heap.get?_push_of_some _ (hH1 ▸ Heap.get?_push_of_some _ e)
  have hsz : Builtin.Range.rangeSize 0 b 1 = b := by rw [rangeSize_one]; split <;> omega
  have hs2 : (H1.push { cls := .type "range_iterator", data := .fields #[rawInt 0, rawInt (Builtin.Range.rangeSize 0 b 1), rawInt 1] }).objs.size = s.heap.objs.size + 2 := by rw [Heap.size_push, hs1]
  refine comp_core (s := { s with heap := _, toks := _ }) hR (KTurns.ofWalks (Walks.range hh H1.objs.size 0 1 b) fun _ _ _ _ _ _ h => wpAny_of_eq rfl h) (fun s Q E st hQ => ?_)
    (fun i h st b' hb' => by
      obtain rfl : b' = H1.objs.size := by simpa using hb'
      exact ⟨_, st⟩) hcell hkind (fun _ v mc h => mc x = some v) (asg_name (P := fun i v _ => ∃ t, v = .int ((0 : Int) + i * 1) t) hkind hx) ?_ ?_ ?_ ?_ ?_ (F.kept hk) (N.keepsAll hk) hb J h0 ?_ ?_
  · exact wpAny_pyIter_rangeiter st hQ
  · intro b' hb'
    obtain rfl : b' = H1.objs.size := by simpa using hb'
    rw [hs2, hs1]; exact Nat.lt_succ_self _
  · simp only [List.mem_cons, List.not_mem_nil, or_false]
    rw [hs1]
    exact lt_ne 1 hLs
  · intro b' hb'
    obtain rfl : b' = H1.objs.size := by simpa using hb'
    rw [hs1]
    exact fr_new F (Nat.le_succ _)
  · intro p hp hb'
    obtain e : p.1 = H1.objs.size := by simpa using hb'
    rw [hs1] at e
    exact lt_ne 1 (Heap.lt_size (N p hp).1) e
  · have e1 : ((0 : Int) + ((0 : Nat) : Int) * 1) = 0 := by simp
    have e2 : (((b : Nat) : Int) - ((0 : Nat) : Int)) = Builtin.Range.rangeSize 0 b 1 := by rw [hsz]; omega
    rw [e1, e2]
    exact Heap.get?_push_size _ rfl
  · intro i v ys mc news₁ s₁ own C wr' E' hi hP hJ ha hw how hmo hr F₁ N₁ hn hCo hb hst
    obtain ⟨_, t', rfl⟩ := hP
    rw [Int.mul_one, Int.zero_add] at hb
    refine wpAny_mono (step i t' ys mc news₁ s₁ own C wr' E' hi hJ ha (fun b hb => ?_) (fun q hq => ?_) hmo (hR.trans (hR.step _ _ _) hr) F₁ N₁ hn hCo hb) (fun ok s₂ h₂ => ?_) fun _ _ e => e
    · rcases hw b hb with h | h
      · rw [hs2] at h; exact Nat.le_trans (Nat.le_add_right _ _) h
      · obtain rfl : b = H1.objs.size := by simpa using h
        rw [hs1]; exact Nat.le_succ _
    · rcases how q hq with h | h
      · obtain e : q.1 = H1.objs.size := by simpa using h
        rw [e, hs1]; exact Nat.le_succ _
      · rw [hs2] at h; exact Nat.le_trans (Nat.le_add_right _ _) h
    · cases ok with
      | true =>
        simp only [if_true] at h₂ ⊢
        exact wpAny_mono h₂ (fun y s₃ h₃ => step_back hR h₃) fun _ _ e => e
      | false =>
        simp only [Bool.false_eq_true, if_false] at h₂ ⊢
        exact step_back hR h₂
  · intro ys nn news' s' Dl hr F' N' ha hJ
    exact rest ys nn news' s' Dl (hR.trans (hR.step _ _ _) hr) F' N' ha hJ
end
end SN16
section SM22
open PySem PySem.W PySem.W.X PyProof.Rows PySem.Spec PySem.Calls
set_option maxHeartbeats 0
set_option hygiene false in
local macro_rules | `(tactic| x_close) => `(tactic| exact hQ)
theorem fill_y (w : World) (h : Heap) (_ : (hd.heap_1 w.params).In h) : (fun (_ : W.OpenLaw) (_ : Params → Frag) => True) Challenge.rw_wv0033_01 hd.heap_1 := by k_fill; trivial
theorem cap_attr {p : Program} {w : World} {gd : Option (List Code)} {fr : Option (List Env)} {h : Heap} {g : Array GenState} {d : Drawn} {t : Nat} {os : OsState} (X : (hd.heap_1 w.params).In h) {k : Tok} {Q E : Value → Shared → Prop} (hQ : Q (.builtin "str.capitalize") ⟨h, g, d, t, os⟩) :
    wpAny (model p w) { handled := none, depth := 370, frames := fr, guards := gd, units := 600 } (getAttrBy (.type "str") (.str (Str.ofString "capitalize") k) true true) Q E ⟨h, g, d, t, os⟩ := by
  x_run
theorem map_mro : mroOf (.type "map") = pure [.type "map", .type "object"] := by rw [mroOf_type]; kernel_rfl
theorem map_new_at : typeLookup (.type "map") "__new__" = pure (some (.builtin "map.__new__")) := by rw [typeLookup_type, builtinLookup_eq_fast]; kernel_rfl
theorem map_called : TypeCalled "map" "map.__new__" "object.__init__" :=
  ⟨by decide +kernel, by decide +kernel, ⟨_, _, map_mro⟩, madeBy_type map_mro map_new_at (by decide +kernel), by decide +kernel, by rw [isSubtype_type]; kernel_rfl, .of (owner := "object") (n := "__init__") (by rw [typeLookup_type, builtinLookup_eq_fast]; kernel_rfl) (by decide +kernel) (by decide +kernel) (by decide +kernel) (by first | exact .inl (by decide +kernel) | exact .inr (by decide +kernel)) (by rw [isSubtype_type]; kernel_rfl)⟩
theorem map_type_ok (a b : Value) : checkTypeCall "map" ⟨[a, b], []⟩ = pure () := by kernel_rfl
theorem map_new_ok (a b : Value) : checkBuiltinCall "map.__new__" ⟨[.type "map", a, b], []⟩ = pure () := by kernel_rfl
theorem map_entry : entryFor table "map.__new__" = some Builtin.«map.__new__» := entryFor_of_tree (by kernel_rfl)
theorem meets_map (l : Addr) (its : Array Value) (n : Nat) :
    Meets (Builtin.«map.__new__» ⟨[.type "map", .builtin "str.capitalize", .ref l], []⟩) (fun _ R s => s.heap.get? l = some { cls := .type "list", data := .seq its n } ∧
      R (.ok (.ret (.ref (s.heap.objs.size + 2)))) { s with heap := ((s.heap.push { cls := .type "list_iterator", data := .fields #[.ref l, .int 0 0] }).push { cls := .type "tuple", data := .seq #[.ref s.heap.objs.size] }).push { cls := .type "map", data := .fields #[.ref (s.heap.objs.size + 1), .builtin "str.capitalize"] } }) :=
  .of_wp fun prog w A R s h => by
    obtain ⟨hp, g, d, tk, os⟩ := s
    obtain ⟨hl, h⟩ := h
    have hL : Heap.IsList (Shared.heap ⟨hp, g, d, tk, os⟩) l its := ⟨_, hl, rfl, n, rfl⟩
    have hsub := map_called.sub
    wp_walk using wpAny_pyIter_list hL
    refine ⟨_, rfl, ?_⟩
    simp only [Heap.size_push]
    exact h
theorem get_push {h : Heap} {o : Obj} {b : Addr} (f : o.isFreed = false) (e : b = h.objs.size) : (h.push o).get? b = some o := by rw [e]; exact Heap.get?_push_size _ f
theorem fresh_at {h : Heap} {b : Addr} (e : h.objs.size ≤ b) : h.get? b = none := by
  cases q : h.get? b with
  | none => rfl
  | some o => exact absurd (Heap.lt_size q) (Nat.not_lt.mpr e)
theorem map_made {p : Program} {w : World} {gd : Option (List Code)} {fr : Option (List Env)} {h : Heap} {g : Array GenState} {d : Drawn} {t : Nat} {os : OsState} (X : (hd.heap_1 w.params).In h) {l : Addr} {its : Array Value} {n : Nat} (hl : h.get? l = some { cls := .type "list", data := .seq its n }) {Q E : Value → Shared → Prop}
    (hQ : ∀ I tp it h' tk (os' : OsState), Mem h h' [] [(I, { cls := Value.type "map", data := Data.fields { toList := [Value.ref tp, Value.builtin "str.capitalize"] } }), (tp, { cls := Value.type "tuple", data := Data.seq { toList := [Value.ref it] } }), (it, { cls := Value.type "list_iterator", data := Data.fields { toList := [Value.ref l, Value.int 0 0] } })] → os' = os → Q (.ref I) ⟨h', g, d, tk, os'⟩) :
    wpAny (model p w) { handled := none, depth := 370, frames := fr, guards := gd, units := 600 } (call (.type "map") [.builtin "str.capitalize", .ref l]) Q E ⟨h, g, d, t, os⟩ := by
  refine callType_new map_called (by decide) (map_type_ok _ _) (map_new_ok _ _) (fun obj => F.args_object_init_3 obj _ _) map_entry (meets_map l its n) ⟨hl, ?_⟩
  let oi : Obj := { cls := .type "list_iterator", data := .fields #[.ref l, .int 0 0] }
  have f1 : (h.push oi).objs.size = h.objs.size + 1 := Heap.size_push ..
  have f2 : ((h.push oi).push { cls := .type "tuple", data := .seq #[.ref h.objs.size] }).objs.size = h.objs.size + 2 := (Heap.size_push ..).trans (congrArg (· + 1) f1)
  have g3 := get_push (h := (h.push oi).push { cls := .type "tuple", data := .seq #[.ref h.objs.size] }) (o := { cls := .type "map", data := .fields #[.ref (h.objs.size + 1), .builtin "str.capitalize"] }) rfl f2.symm
  refine ⟨⟨_, g3, rfl⟩, hQ _ (h.objs.size + 1) h.objs.size _ t os ⟨fun b o e _ => ?_, fun _ q => (List.not_mem_nil q).elim, .nil, ?_, ?_⟩ rfl⟩
  · exact Heap.get?_push_of_some _ (Heap.get?_push_of_some _ (Heap.get?_push_of_some _ e))
  · intro q hq
    rcases List.mem_cons.mp hq with rfl | hq
    · exact ⟨g3, fresh_at (Nat.le_add_right _ _)⟩
    · rcases List.mem_cons.mp hq with rfl | hq
      · exact ⟨Heap.get?_push_of_some _ (get_push rfl f1.symm), fresh_at (Nat.le_add_right _ _)⟩
      · obtain rfl := List.mem_singleton.mp hq
        exact ⟨Heap.get?_push_of_some _ (Heap.get?_push_of_some _ (get_push rfl rfl)), fresh_at (Nat.le_refl _)⟩
  · exact .cons (by simp) (.cons (by simp) (.cons (by simp) .nil))
end SM22
section SM23
open Builtin Builtin.Str Builtin.Int
set_option maxHeartbeats 4000000
local macro_rules | `(tactic| walk_at "PAD0") => `(tactic| skip)
section
variable {prog : Program} {w : World} {A : Around} {E : Value → Shared → Prop} {s : Shared} {I : Addr} {fp wr : List Addr} {G : Array GenState → Array GenState → Prop} {n : Nat} {P : Nat → Value → Prop} {St : Nat → Shared → Prop}
theorem collect_map {Q : List Value → Shared → Prop} (W : WalksS prog w A.in1 I fp wr G n P St) (hT : ∀ i s, St i s → s.TypeIs (.ref I) "map") (hst : St 0 s) (hfp : ∀ b ∈ fp, b < s.heap.objs.size) (hI : I ∈ fp)
    (hQ : ∀ s' acc, (∀ b o, b ∉ wr → s.heap.get? b = some o → s'.heap.get? b = some o) → s'.drawn = s.drawn → s'.os = s.os → G s.gens s'.gens → ItemsOf P acc n → Q acc.toList s') (hn : n ≤ sizeLine := by size_fits) : wpAny (model prog w) A (collect (.ref I)) Q E s := by
  revert prog w A E s I fp wr G n P St Q
  intro PK prog w A E s I fp wr G n P St Q
  intro W hT hst hfp hI hQ hn
  have hSf : s.heap.objs.size ∉ fp := fun hm => Nat.lt_irrefl _ (hfp _ hm)
  have hSI : s.heap.objs.size ≠ I := fun e => hSf (e ▸ hI)
  unfold collect
  refine wpAny_bind (wpAny_runValue (codeAny_builtin F.entry_proto_collect ?_))
  rw [Around.under_plainId F.plain_proto_collect _]
  show wpAny _ A.in1 (newList [] >>= fun l => again (.builtin "list.__iadd__" ⟨[l, .ref I], []⟩)) _ _ s
  refine wpAny_bind (wpAny_newObj_type ?_)
  refine wpAny_pure ⟨plainId_quiet F.plain_list_iadd _, codeAny_builtin F.entry_list_iadd ?_⟩
  rw [Around.under_plainId F.plain_list_iadd _]
  have hst₁ := W.frame 0 s (s.heap.push { cls := .type "list", data := .seq ([] : List Value).toArray }) s.toks hst (Nat.le_refl _) fun b _ o e => Heap.get?_push_of_some _ e
  show wpAny _ A.in1 (Builtin.List.listExtendWith (.ref s.heap.objs.size) (.ref I) (.ref s.heap.objs.size)) _ _ _
  unfold Builtin.List.listExtendWith
  refine wpAny_bind (wpAny_typeOf (hT 0 _ hst₁) ?_)
  have h1 : Builtin.List.listSameRef (.ref s.heap.objs.size) (.ref I) = false := by simp [Builtin.List.listSameRef, hSI]
  have h2 : (Value.type "map" == Value.type "list") = false := by decide
  have h3 : (Value.type "map" == Value.type "tuple") = false := by decide
  simp only [h1, h2, h3, Bool.or_false, Bool.false_eq_true, if_false]
  refine wpAny_bind (W.self 0 _ _ _ hst₁ ?_)
  refine wpAny_bind (wpAny_holding ?_)
  unfold Builtin.List.listLengthHint
  refine wpAny_bind (wpAny_specialOf (hT 0 _ hst₁) map_no_len ?_)
  show wpAny _ A.in1 (specialOf (Value.ref I) (Str.ofString "__length_hint__") >>= _) _ _ _
  refine wpAny_bind (wpAny_specialOf (hT 0 _ hst₁) map_no_hint ?_)
  refine wpAny_pure ?_
  show wpAny _ A.in1 (rule "list.extend.makes-room" >>= fun _ => Builtin.List.listTouch (.ref s.heap.objs.size) >>= fun _ =>
    again (.builtin "list.extend.loop" ⟨[.ref s.heap.objs.size, .ref I, .ref s.heap.objs.size], []⟩)) _ _ _
  refine wpAny_bind (wpAny_rule ?_)
  have hS₁ : (s.heap.push { cls := .type "list", data := .seq ([] : List Value).toArray }).get? s.heap.objs.size = some { cls := .type "list", data := .seq ([] : List Value).toArray } := Heap.get?_push_size _ rfl
  refine wpAny_bind ?_
  show wpAny _ A.in1 (updateSeq s.heap.objs.size (·.push .none) >>= fun _ => updateSeq s.heap.objs.size (·.pop)) _ _ _
  refine wpAny_bind (wpAny_updateSeq hS₁ rfl ?_)
  have hS₂ := Heap.get?_update_self (Obj.mapSeq (·.push Value.none)) hS₁ rfl
  refine wpAny_updateSeq hS₂ rfl ?_
  have hS₃ := Heap.get?_update_self (Obj.mapSeq (·.pop)) hS₂ rfl
  have oth : ∀ b o, b ≠ s.heap.objs.size → (s.heap.push { cls := .type "list", data := .seq ([] : List Value).toArray }).get? b = some o →
      (((s.heap.push { cls := .type "list", data := .seq ([] : List Value).toArray }).update s.heap.objs.size (Obj.mapSeq (·.push Value.none))).update s.heap.objs.size (Obj.mapSeq (·.pop))).get? b = some o :=
    fun b o hb e => (Heap.get?_update_other _ _ (Ne.symm hb)).trans ((Heap.get?_update_other _ _ (Ne.symm hb)).trans e)
  refine wpAny_pure ⟨plainId_quiet F.plain_extend_loop _, codeAny_extend_loopS W hn _ hSf _ n 0 _ _ _ rfl (Nat.zero_le _)
    (W.frame 0 ({ s with heap := s.heap.push { cls := .type "list", data := .seq ([] : List Value).toArray } } : Shared) _ s.toks hst₁ (Nat.le_refl _) fun b hb o e => oth b o (fun h => hSf (h ▸ hb)) e) hS₃ (ItemsOf.nil P) fun s' acc' c' hm hS' hacc => ?_⟩
  show wpAny _ A (load s.heap.objs.size >>= _) _ _ s'
  refine wpAny_bind (wpAny_load hS' ?_)
  refine wpAny_pure (hQ s' acc' (fun b o hb e => ?_) hm.drawn hm.os hm.gens hacc)
  have hbs : b ≠ s.heap.objs.size := Nat.ne_of_lt (Heap.lt_size e)
  exact hm.heap b o (by simp [hbs, hb]) (oth b o hbs (Heap.get?_push_of_some _ e))
end
theorem join_map {prog : Program} {w : World} {A : Around} {E : Value → Shared → Prop} {s : Shared} {x : Str} {t : Tok} {Q : Value → Shared → Prop} (hh : A.handled = none) {I tp it l : Addr} {ps : List (Str × Tok)}
    (hI : IsMap s.heap I tp) (hT : IsOne s.heap tp it) (hit : s.heap.IsListIter it l 0) (hl : s.heap.IsList l (strValues ps).toArray) (h1 : I ≠ it) (h2 : tp ≠ it) (h3 : l ≠ it) (hfit : ∀ p ∈ ps, p.1.length ≤ 5592405) (hlen : ps.length ≤ sizeLine)
    (hok : JoinOk x (ps.map fun p => Txt.capitalize p.1) = true)
    (hQ : ∀ h' t' k, (∀ b o, b ≠ it → s.heap.get? b = some o → h'.get? b = some o) → Q (.str (Txt.join x (ps.map fun p => Txt.capitalize p.1)) t') { s with heap := h', toks := k }) :
    wpAny (model prog w) A (call (.builtin "str.join") [.str x t, .ref I]) Q E s := by
  revert prog w A E s x t Q I tp it l ps
  intro PK prog w A E s x t Q
  intro hh
  intro PK I tp it l ps
  intro hI hT hit hl h1 h2 h3 hfit hlen hok hQ
  have W := (mapWalks (prog := prog) (w := w) (A := A.in1.in1) hh ps hfit h1 h2 h3 (tp := tp)).toS
  have hst : IsMap s.heap I tp ∧ IsOne s.heap tp it ∧ s.heap.IsListIter it l 0 ∧ s.heap.IsList l (strValues ps).toArray := ⟨hI, hT, hit, hl⟩
  have hTy : ∀ i (s : Shared), (IsMap s.heap I tp ∧ IsOne s.heap tp it ∧ s.heap.IsListIter it l i ∧ s.heap.IsList l (strValues ps).toArray) → s.TypeIs (.ref I) "map" := fun i s h => ⟨_, h.1, rfl⟩
  refine wpAny_call (codeAny_call_builtin F.slot_str_join.plain F.entry_str_join (F.slot_str_join.check _ _ _ _ _ _ _ _ (typeIs_str _ _ _) (F.args_str_join_2 _ _) ?_))
  rw [join_tree_other]
  refine wpAny_bind (wpAny_typeOf (hTy 0 s hst) ?_)
  show wpAny _ A.in1 ((pyIter (.ref I)).tryCatch _ >>= fun it => collect it >>= fun items => joinTail x items) _ _ s
  refine wpAny_bind (wpAny_tryCatch (W.of_in1.self 0 s _ _ hst ?_))
  refine wpAny_bind (collect_map W hTy hst (fun b hb => ?_) (by simp) (fun s' acc hk hd ho hg hacc => ?_) hlen)
  · simp at hb
    obtain ⟨o3, e3, _⟩ := hit
    obtain ⟨o4, e4, _⟩ := hl
    rcases hb with rfl | rfl | rfl | rfl
    · exact Heap.lt_size hI
    · exact Heap.lt_size hT
    · exact Heap.lt_size e3
    · exact Heap.lt_size e4
  · obtain ⟨l', hl'⟩ := exists_strValues acc.toList fun v hv => by
      obtain ⟨j, hj, rfl⟩ := Array.mem_iff_getElem.mp (Array.mem_toList_iff.mp hv)
      obtain ⟨p, t', _, e⟩ := hacc.2 j _ (Array.getElem?_eq_getElem hj)
      exact ⟨_, _, e⟩
    have hmap : l'.map (·.1) = ps.map fun p => Txt.capitalize p.1 := by
      have hsz : acc.toList.length = ps.length := by simpa using hacc.1
      have hlen' : l'.length = ps.length := by rw [← hsz, ← hl']; simp [strValues]
      refine List.ext_getElem (by simp [hlen']) fun j hj1 hj2 => ?_
      have hj : j < l'.length := by simpa using hj1
      have e1 : acc[j]? = some (.str l'[j].1 l'[j].2) := by
        have : acc.toList[j]? = some (.str l'[j].1 l'[j].2) := by rw [← hl']; simp [strValues, hj]
        simpa using this
      obtain ⟨p, t', e2, e3⟩ := hacc.2 j _ e1
      have hj' : j < ps.length := hlen' ▸ hj
      rw [List.getElem?_eq_getElem hj'] at e2
      injection e2 with e2
      injection e3 with e3
      simp [e3, e2]
    rw [← hl']
    rw [← hmap] at hok
    unfold JoinOk at hok
    rw [Bool.not_eq_true'] at hok
    have g : Gives (joinTail x (strValues l')) (joinMade x l') := by
      have g0 := gives_joinTail x l' hok
      cases l' with
      | nil => exact g0
      | cons p r => cases r with
        | nil => exact g0
        | cons q r' => exact g0
    refine g prog w A (wants Q E) s' (post_join l' ⟨joinFit_length hok, fun t' k => ?_⟩)
    rw [hmap]
    have := hQ s'.heap t' k (fun b o hb e => hk b o (by simpa using hb) e)
    have e : ({ s with heap := s'.heap, toks := k } : Shared) = { s' with toks := k } := by
      cases s; cases s'; simp at hd ho hg; subst hd; subst ho; subst hg; rfl
    rw [e] at this
    exact this
end SM23
section SM30
set_option maxHeartbeats 2000000
local macro_rules | `(tactic| walk_at "PAD0") => `(tactic| skip)
section
variable {w : World} {A : Around} {R : Result → Shared → Prop}
theorem extend_it {D U : Nat} {a : Addr} {fp wr : List Addr} {gf : List Nat} {own : Shared → Addr → Prop} {St : List Str → Shared → Prop} (I : It Challenge.pw_wv0033_01 w D U a fp wr gf own St) (hh : A.in1.handled = none) (hD : A.in1.depth ≤ D) (hU : A.in1.units ≤ U) {Sl : Addr} {res : Value} {pr : Addr → Prop} (hSf : Sl ∉ fp) (hwr : ∀ b ∈ wr, ¬ pr b) (hS₀ : pr Sl) :
    ∀ (rest : List Str) (s : Shared) (ts : List (Str × Tok)) (c : Nat), ts.length + rest.length ≤ 100000 → St rest s → (∀ b, own s b → ¬ pr b) → (∀ b, pr b → ∃ o', s.heap.get? b = some o') → s.heap.get? Sl = some { cls := .type "list", dict := none, data := .seq (strValues ts).toArray c, slots := #[] } →
    (∀ s' ts' c', (∀ b o, b ≠ Sl → pr b → s.heap.get? b = some o → s'.heap.get? b = some o) → ((∀ y ∈ s.gens, y.bare = true) → ∀ y ∈ s'.gens, y.bare = true) → s'.drawn = s.drawn → s'.os = s.os → s'.heap.get? Sl = some { cls := .type "list", dict := none, data := .seq (strValues ts').toArray c', slots := #[] } → ts'.map (·.1) = ts.map (·.1) ++ rest → s.toks ≤ s'.toks → R (.ok (.ret res)) s') →
    codeAny (model Challenge.pw_wv0033_01 w) A (.builtin "list.extend.loop" ⟨[.ref Sl, .ref a, res], []⟩) R s := by
  have hSw : Sl ∉ wr := fun h => hSf (I.sub _ h)
  intro rest
  induction rest with
  | nil =>
    intro s ts c hlen hst hown hal hS hR
    refine codeAny_builtin F.entry_extend_loop ?_
    rw [Around.under_plainId F.plain_extend_loop _]
    show wpAny _ A.in1 (pyNext (.ref a) >>= _) _ _ s
    have hSo : ¬ own s Sl := fun h => hown _ h hS₀
    refine wpAny_bind (I.done _ s _ _ hh hD hU hst fun s' mw => ?_)
    exact wpAny_pure (hR s' ts c (fun b o _ hb e => mw.heap b o (fun h => hwr b h hb) (fun h => hown b h hb) e) mw.bare mw.drawn mw.os (mw.heap _ _ hSw hSo hS) (by simp) mw.toks)
  | cons x xs ih =>
    intro s ts c hlen hst hown hal hS hR
    refine codeAny_builtin F.entry_extend_loop ?_
    rw [Around.under_plainId F.plain_extend_loop _]
    show wpAny _ A.in1 (pyNext (.ref a) >>= _) _ _ s
    have hSo : ¬ own s Sl := fun h => hown _ h hS₀
    refine wpAny_bind (I.item _ x xs s _ _ hh hD hU hst fun t s' hst' mv => ?_)
    have hS' := mv.heap _ _ hSw hSo hS
    have hown' : ∀ b, own s' b → ¬ pr b := fun b h hp => (mv.own b h).elim (fun h => hown b h hp) fun z => by
      obtain ⟨o', e'⟩ := hal b hp
      rw [z] at e'; cases e'
    show wpAny _ A.in1 (updateSeq Sl (·.push (.str x t)) >>= _) _ _ _
    refine wpAny_bind ?_
    simp at hlen
    have hS'' := Heap.get?_update_self (Obj.mapSeq (·.push (Value.str x t))) hS' rfl
    have oth : ∀ b, b ≠ Sl → (s'.heap.update Sl (Obj.mapSeq (·.push (Value.str x t)))).get? b = s'.heap.get? b := fun b hb => Heap.get?_update_other _ _ (Ne.symm hb)
    refine wpAny_updateSeq hS' rfl (wpAny_pure ⟨plainId_quiet F.plain_extend_loop _, ih _ (ts ++ [(x, t)]) (c + 1) (by simp; omega) (I.frame xs s' _ s'.toks s'.gens hst' (Nat.le_refl _) (fun b o hb e => (oth b (by rcases hb with hb | hb; exact fun h => hSf (h ▸ hb); exact fun h => hown' b hb (h ▸ hS₀))).trans e) fun _ _ => rfl)
      (fun b h => hown' b (I.ownAt s' _ s'.toks s'.gens b (fun b o hb e => (oth b fun h => hSf (h ▸ hb)).trans e) ⟨xs, hst'⟩ h)) (fun b hp => ?_) ?_ fun s'' ts' c' k1 k2 k3 k4 k5 k6 k7 => ?_⟩) (by simp [strValues]; unfold sizeLine; omega) (by simp [strValues]; unfold sizeLine; omega)
    · obtain ⟨o', e'⟩ := hal b hp
      obtain ⟨o'', e''⟩ := mv.alive b o' e'
      by_cases hb : b = Sl
      · rw [hb]; exact ⟨_, hS''⟩
      · exact ⟨o'', (oth b hb).trans e''⟩
    · rw [hS'']
      simp [Obj.mapSeq, strValues]
    · refine hR s'' ts' c' (fun b o hb hn e => k1 b o hb hn ((oth b hb).trans (mv.heap b o (fun h => hwr b h hn) (fun h => hown b h hn) e))) (fun h => k2 (mv.bare h)) (k3.trans mv.drawn) (k4.trans mv.os) k5 ?_ (Nat.le_trans mv.toks k7)
      rw [k6]; simp
theorem list_gen {E : Value → Shared → Prop} {D U : Nat} {rd : Addr → Prop} {s₀ s : Shared} {a : Addr} {outs : List Str} {Q : Value → Shared → Prop} (hh : A.handled = none) (hD : A.depth ≤ D) (hU : A.units + 2 ≤ U) (G : GenNew w D U rd s₀ s (.ref a) outs) (hlen : outs.length ≤ 100000)
    (hQ : ∀ Dl s' ts c, s₀.heap.get? Dl = none → Grown s₀ s' → s'.heap.get? Dl = some { cls := .type "list", data := .seq (strValues ts).toArray c } → ts.map (·.1) = outs → Q (.ref Dl) s') :
    wpAny (model Challenge.pw_wv0033_01 w) A (call (.type "list") [.ref a]) Q E s := by
  revert w A E D U rd s₀ s a outs Q
  intro PK w A E D U rd s₀ s a outs Q
  intro hh hD hU G hlen hQ
  obtain ⟨g1, g2, g3, g4, g5, a', fp, wr, gf, own, St, e, I, hst, hno, hwr, hfp, hrd, hgf, g, hg⟩ := G
  cases e
  have hSf : s.heap.objs.size ∉ fp := fun hm => Nat.lt_irrefl _ (hfp _ hm)
  have hal : a < s.heap.objs.size := let ⟨_, _, _, e, _⟩ := hg; Heap.lt_size e
  have hSI : s.heap.objs.size ≠ a := Nat.ne_of_gt hal
  refine callType_codes (Q₁ := fun obj s₁ => obj = .ref s.heap.objs.size ∧ s₁ = { s with heap := s.heap.push { cls := .type "list", data := .seq #[] } }) F.called_list (F.typeCall_list_1 _) F.entry_list_init
    (code_list_new _ ⟨rfl, rfl⟩) fun obj s₁ h₁ => ?_
  obtain ⟨rfl, rfl⟩ := h₁
  have hS : (s.heap.push { cls := .type "list", data := .seq #[] }).get? s.heap.objs.size = some { cls := .type "list", data := .seq #[] } := Heap.get?_push_size _ rfl
  refine ⟨⟨_, hS, rfl⟩, F.args_list_init_2 _ _, ?_⟩
  show wpAny _ A.in1.in1 (do let old ← Builtin.List.listItems (.ref s.heap.objs.size); Builtin.List.listUpdate (.ref s.heap.objs.size) (fun _ => #[]); letGo old.toList.reverse; Builtin.List.listExtendWith (.ref s.heap.objs.size) (.ref a) .none) _ _ _
  refine wpAny_bind ?_
  unfold Builtin.List.listItems
  refine wpAny_bind (wpAny_seqItems hS rfl (wpAny_pure ?_))
  show wpAny _ A.in1.in1 (updateSeq s.heap.objs.size (fun _ => #[]) >>= fun _ => letGo (#[] : Array Value).toList.reverse >>= fun _ => Builtin.List.listExtendWith (.ref s.heap.objs.size) (.ref a) .none) _ _ _
  refine wpAny_bind (wpAny_updateSeq hS rfl ?_)
  have hS₂ := Heap.get?_update_self (Obj.mapSeq (fun _ => (#[] : Array Value))) hS rfl
  have oth₂ : ∀ b o, s.heap.get? b = some o → ((s.heap.push { cls := .type "list", data := .seq #[] }).update s.heap.objs.size (Obj.mapSeq (fun _ => (#[] : Array Value)))).get? b = some o :=
    fun b o e => (Heap.get?_update_other _ _ (Nat.ne_of_gt (Heap.lt_size e))).trans (Heap.get?_push_of_some _ e)
  generalize hH2 : (s.heap.push { cls := .type "list", data := .seq #[] }).update s.heap.objs.size (Obj.mapSeq (fun _ => (#[] : Array Value))) = h2 at hS₂ oth₂ ⊢
  refine wpAny_bind (wpAny_letGo ?_)
  have hT : ({ s with heap := h2 } : Shared).TypeIs (.ref a) "generator" := (hg.keeps oth₂).typeIs
  unfold Builtin.List.listExtendWith
  refine wpAny_bind (wpAny_typeOf hT ?_)
  have h1 : Builtin.List.listSameRef (.ref s.heap.objs.size) (.ref a) = false := by simp [Builtin.List.listSameRef, hSI]
  have h2' : (Value.type "generator" == Value.type "list") = false := by decide
  have h3' : (Value.type "generator" == Value.type "tuple") = false := by decide
  simp only [h1, h2', h3', Bool.or_false, Bool.false_eq_true, if_false]
  have hst₂ : St outs ({ s with heap := h2 } : Shared) := I.frame outs s h2 s.toks s.gens hst (Nat.le_refl _) (fun b o _ e => oth₂ b o e) fun _ _ => rfl
  refine wpAny_bind (I.self _ _ _ _ _ hst₂ ?_)
  refine wpAny_bind (wpAny_holding ?_)
  unfold Builtin.List.listLengthHint
  refine wpAny_bind (wpAny_specialOf hT F.gen_no_len ?_)
  show wpAny _ A.in1.in1 (specialOf (Value.ref a) (Str.ofString "__length_hint__") >>= _) _ _ _
  refine wpAny_bind (wpAny_specialOf hT F.gen_no_hint ?_)
  refine wpAny_pure ?_
  show wpAny _ A.in1.in1 (rule "list.extend.makes-room" >>= fun _ => Builtin.List.listTouch (.ref s.heap.objs.size) >>= fun _ =>
    again (.builtin "list.extend.loop" ⟨[.ref s.heap.objs.size, .ref a, .none], []⟩)) _ _ _
  refine wpAny_bind (wpAny_rule ?_)
  refine wpAny_bind ?_
  show wpAny _ A.in1.in1 (updateSeq s.heap.objs.size (·.push .none) >>= fun _ => updateSeq s.heap.objs.size (·.pop)) _ _ _
  refine wpAny_bind (wpAny_updateSeq hS₂ rfl ?_)
  have hS₃ := Heap.get?_update_self (Obj.mapSeq (·.push Value.none)) hS₂ rfl
  refine wpAny_updateSeq hS₃ rfl ?_
  have hS₄ := Heap.get?_update_self (Obj.mapSeq (·.pop)) hS₃ rfl
  have oth₄ : ∀ b o, s.heap.get? b = some o → ((h2.update s.heap.objs.size (Obj.mapSeq (·.push Value.none))).update s.heap.objs.size (Obj.mapSeq (·.pop))).get? b = some o :=
    fun b o e => (Heap.get?_update_other _ _ (Nat.ne_of_gt (Heap.lt_size e))).trans ((Heap.get?_update_other _ _ (Nat.ne_of_gt (Heap.lt_size e))).trans (oth₂ b o e))
  generalize hH4 : (h2.update s.heap.objs.size (Obj.mapSeq (·.push Value.none))).update s.heap.objs.size (Obj.mapSeq (·.pop)) = h4 at hS₄ oth₄ ⊢
  have fS : s₀.heap.get? s.heap.objs.size = none := by
    cases e : s₀.heap.get? s.heap.objs.size with
    | none => rfl
    | some o => have := g1 _ _ e; rw [get_size] at this; cases this
  refine wpAny_pure ⟨plainId_quiet F.plain_extend_loop _, extend_it (A := A.in1) I hh hD (by show A.units + 1 + 1 ≤ U; omega) (pr := fun b => s₀.heap.get? b ≠ none ∨ b = s.heap.objs.size) hSf (fun b hb hp => ?_) (.inr rfl) outs _ [] _ (by simpa using hlen) (I.frame outs s h4 s.toks s.gens hst (Nat.le_refl _) (fun b o _ e => oth₄ b o e) fun _ _ => rfl) (fun b h => (hno b (I.ownAt s h4 s.toks s.gens b (fun b o _ e => oth₄ b o e) ⟨outs, hst⟩ h)).elim) (fun b hp => ?_) hS₄ fun s' ts' c' k1 k2 k3 k4 k5 k6 k7 => ?_⟩
  · rcases hp with hp | rfl
    · exact hp (hwr b hb)
    · exact Nat.lt_irrefl _ (hfp _ (I.sub _ hb))
  · rcases hp with hp | rfl
    · obtain ⟨o, e⟩ := Option.ne_none_iff_exists'.mp hp
      exact ⟨o, oth₄ b o (g1 b o e)⟩
    · exact ⟨_, hS₄⟩
  · refine ⟨rfl, hQ _ s' ts' c' fS ⟨fun b o e => k1 b o (fun h => by rw [h, fS] at e; cases e) (.inl (by rw [e]; nofun)) (oth₄ b o (g1 b o e)), fun h => k2 (g2 h), k3.trans g3, k4.trans g4, Nat.le_trans g5 k7⟩ k5 (by simpa using k6)⟩
end
end SM30
section SM31
set_option maxHeartbeats 2000000
local macro_rules | `(tactic| walk_at "PAD0") => `(tactic| skip)
section
variable {w : World} {A : Around}
theorem sub_list {x : String} {p1 p2 p3 : Pos} {kd : Nat} {kx l : Addr} {items : Array Value} {k : Nat} {v : Value} {cenv : Env} {s : Shared} {Q E : Value → Shared → Prop} (hk : cenv.scope.kind = .function) (hl : cenv.kindOf (Str.ofString x) = some .cell) (hlc : cenv.cells.lookup (Str.ofString x) = some kx) (hd : (Str.ofString x == ("__debug__" : Str)) = false)
    (vl : s.heap.IsCell kx (some (.ref l))) (hi : s.heap.IsList l items) (hv : items[k]? = some v) (hk2 : k < 1000) (hQ : ∀ tk, s.toks ≤ tk → Q v { s with toks := tk }) :
    wpAny (model Challenge.pw_wv0033_01 w) A (eval (.Subscript (nm x p1) (.Constant (.int (k : Int)) kd p2) p3) cenv) Q E s := by
  refine wpAny_Subscript_Constant_late (name_cell hk hl hlc vl (wpAny_Constant_int ⟨"list", _, list_getitem_lookup, hi.typeIs, ?_⟩) hd)
  refine wpAny_getItem_list (s := { s with toks := s.toks + 1 }) (items := items) (x := v) hi (Int.natCast_nonneg _) (by omega) (by rw [Int.toNat_natCast]; exact hv) (hQ _ (Nat.le_succ _))
theorem grown_toks {s : Shared} {tk : Nat} (h : s.toks ≤ tk) : Grown s { s with toks := tk } := ⟨fun _ _ e => e, fun h => h, rfl, rfl, h⟩
abbrev EvTo (w : World) (A : Around) (s : Shared) (e : Expr) (env : Env) (c : Addr) : Prop := ∀ (s' : Shared) (Q E : Value → Shared → Prop), Grown s s' → (∀ tk, s'.toks ≤ tk → Q (.ref c) { s' with toks := tk }) → wpAny (model Challenge.pw_wv0033_01 w) A (eval e env) Q E s'
theorem inner_one {mean : ExcName → Option Value} {mg mb : Str → Option Value} {cenv : Env} {h₀ : Heap} {Lc : Addr} {mc : Str → Option Value} {s s' : Shared} {S c dd d kl : Addr} {t₁ t₂ : Tok} {fv : Str → Option Value} {F : Str → Option Str} {z : Str} {t : Tok} {m : Str → Option Value} {e : Expr} {p1 p3 p4 p5 : Pos} {Q E : Value → Shared → Prop}
    (hroom : A.depth < recursionLimit) (hk : cenv.scope.kind = .function) (hl : cenv.kindOf (Str.ofString "lead") = some .cell) (hlc : cenv.cells.lookup (Str.ofString "lead") = some kl) (hz : cenv.kindOf (Str.ofString "name") = some .local)
    (vl : s.heap.IsCell kl (some (.ref S))) (he : EvTo w A s e cenv c) (hst : starEach [e, .List [nm "name" p3] p4] cenv = (false, eval e cenv) :: starEach [.List [nm "name" p3] p4] cenv) (hS : IsLead s.heap S) (Fc : Fr h₀ Lc s.heap mc) (X : (hd.heap_1 w.params).In h₀) (T : Top topProg looseG mean mg mb h₀) (hctx : IsCtx w s.heap c dd d t₁ t₂) (hm : s.heap.MapOf (PySem.strKind Challenge.pw_wv0033_01 w) d fv) (hfv : FvIs fv F) (hds : (d == sysModules) = false)
    (G : Grown s s') (hn : s'.heap.Ns cenv.locals m) (hv : m (Str.ofString "name") = some (.str z t))
    (hQ : ∀ a s'', GenNew w 345 420 (fun b => b < s.heap.objs.size) s' s'' (.ref a) (F z).toList → Q (.ref a) s'') :
    wpAny (model Challenge.pw_wv0033_01 w) A (eval (.Call (nm "lead" p1) [e, .List [nm "name" p3] p4] [] p5) cenv) Q E s' := by
  have cell : ∀ {k v}, s.heap.IsCell k v → s'.heap.IsCell k v := fun ⟨o, e, r⟩ => ⟨o, G.keep _ _ e, r⟩
  refine wpAny_Call_NameR (name_cell hk hl hlc (cell vl) (callWith_F (lead_fn (hS.keep G.keep)) (spliced_more (he s' _ _ G fun tk htk => ?_) hst) hst))
  refine spliced_more (wpAny_List (spliced_more (name_ok (s := { s' with toks := tk }) hk hz hn hv (spliced_none ⟨Nat.le_of_ble_eq_true rfl, ?_⟩))))
  refine spliced_none ⟨lead_fn ((hS.keep G.keep).keep fun b o e => Heap.get?_push_of_some _ e), ?_⟩
  have G1 : Grown s' { s' with heap := s'.heap.push { cls := .type "list", data := .seq [Value.str z t].toArray }, toks := tk } := ⟨fun b o e => Heap.get?_push_of_some _ e, fun h => h, rfl, rfl, htk⟩
  have G2 := G.trans G1
  have lt : ∀ {b o}, s.heap.get? b = some o → b < s.heap.objs.size := fun e => Heap.lt_size e
  have hlim : s.heap.NoLimit := T.nolimit.keeps Fc.keep
  obtain ⟨od, ed⟩ := map_live hm
  refine lead_list (ps := [(z, t)]) (rd := fun b => b < s.heap.objs.size ∨ b = s'.heap.objs.size) hroom (hS.keep G2.keep) (Fc.kept G2.keep) X T ⟨G2.keep _ _ hctx.obj, G2.keep _ _ hctx.dict⟩ (map_at hm fun o e => G2.keep _ o e) hfv hds
    ⟨_, Heap.get?_push_size _ rfl, rfl, _, rfl⟩ (by simp) (.inl (let ⟨_, h, _⟩ := hlim; h.lt)) (.inl (lt hctx.obj)) (.inl (lt hctx.dict)) (.inl (lt ed)) (.inr rfl) (fun b hb => .inl (Nat.lt_of_lt_of_le hb (Nat.le_trans Fc.above (Nat.le_of_lt Fc.ns.lt)))) fun v s'' Gn => ?_
  have Gn' := GenNew.of_grown (rd' := fun b => b < s.heap.objs.size) G1 Gn fun b hb => by rcases hb with hb | rfl; exact .inl hb; exact .inr (get_size _)
  have hsel : selR F [] ([(z, t)].map (·.1)) = (F z).toList := by
    simp only [List.map_cons, List.map_nil, selR]
    cases F z <;> simp
  rw [hsel] at Gn'
  obtain ⟨_, _, _, _, _, a, _, _, _, _, _, e, _⟩ := id Gn'
  subst e
  exact hQ a s'' Gn'
theorem inner_two {mean : ExcName → Option Value} {mg mb : Str → Option Value} {cenv : Env} {h₀ : Heap} {Lc : Addr} {mc : Str → Option Value} {s s' : Shared} {S c dd d c' dd' d' kl : Addr} {t₁ t₂ t₁' t₂' : Tok} {fv fv' : Str → Option Value} {F F' : Str → Option Str} {z : Str} {t : Tok} {m : Str → Option Value} {e e' : Expr} {p1 p3 p4 p5 p6 p7 : Pos} {Q E : Value → Shared → Prop}
    (hroom : A.depth < recursionLimit) (hk : cenv.scope.kind = .function) (hl : cenv.kindOf (Str.ofString "lead") = some .cell) (hlc : cenv.cells.lookup (Str.ofString "lead") = some kl) (hz : cenv.kindOf (Str.ofString "name") = some .local)
    (vl : s.heap.IsCell kl (some (.ref S))) (he : EvTo w A s e cenv c) (he' : EvTo w A s e' cenv c') (hst : starEach [e, .List [nm "name" p3] p4] cenv = (false, eval e cenv) :: starEach [.List [nm "name" p3] p4] cenv)
    (hst' : starEach [e', .Call (nm "lead" p1) [e, .List [nm "name" p3] p4] [] p5] cenv = (false, eval e' cenv) :: starEach [.Call (nm "lead" p1) [e, .List [nm "name" p3] p4] [] p5] cenv)
    (hS : IsLead s.heap S) (Fc : Fr h₀ Lc s.heap mc) (X : (hd.heap_1 w.params).In h₀) (T : Top topProg looseG mean mg mb h₀) (hctx : IsCtx w s.heap c dd d t₁ t₂) (hm : s.heap.MapOf (PySem.strKind Challenge.pw_wv0033_01 w) d fv) (hfv : FvIs fv F) (hds : (d == sysModules) = false)
    (hctx' : IsCtx w s.heap c' dd' d' t₁' t₂') (hm' : s.heap.MapOf (PySem.strKind Challenge.pw_wv0033_01 w) d' fv') (hfv' : FvIs fv' F') (hds' : (d' == sysModules) = false)
    (G : Grown s s') (hn : s'.heap.Ns cenv.locals m) (hv : m (Str.ofString "name") = some (.str z t))
    (hQ : ∀ a s'', GenNew w 330 300 (fun b => b < s.heap.objs.size) s' s'' (.ref a) ((F z).bind F').toList → Q (.ref a) s'') :
    wpAny (model Challenge.pw_wv0033_01 w) A (eval (.Call (nm "lead" p6) [e', .Call (nm "lead" p1) [e, .List [nm "name" p3] p4] [] p5] [] p7) cenv) Q E s' := by
  have cell : ∀ {k v}, s.heap.IsCell k v → s'.heap.IsCell k v := fun ⟨o, e, r⟩ => ⟨o, G.keep _ _ e, r⟩
  refine wpAny_Call_NameR (name_cell hk hl hlc (cell vl) (callWith_F (lead_fn (hS.keep G.keep)) (spliced_more (he' s' _ _ G fun tk htk => ?_) hst') hst'))
  have Gt : Grown s' { s' with toks := tk } := grown_toks htk
  have lt : ∀ {b o}, s.heap.get? b = some o → b < s.heap.objs.size := fun e => Heap.lt_size e
  have hlim : s.heap.NoLimit := T.nolimit.keeps Fc.keep
  obtain ⟨od, ed⟩ := map_live hm'
  refine spliced_more (inner_one (s' := { s' with toks := tk }) hroom hk hl hlc hz vl he hst hS Fc X T hctx hm hfv hds (G.trans Gt) hn hv fun a s₂ Gn => ?_)
  have G2 : Grown s s₂ := (G.trans Gt).trans Gn.grown
  refine spliced_none ⟨lead_fn (hS.keep G2.keep), ?_⟩
  refine lead_gen hroom (hS.keep G2.keep) (Fc.kept G2.keep) X T ⟨G2.keep _ _ hctx'.obj, G2.keep _ _ hctx'.dict⟩ (map_at hm' fun o e => G2.keep _ o e) hfv' hds' Gn
    (let ⟨_, h, _⟩ := hlim; h.lt) (lt hctx'.obj) (lt hctx'.dict) (lt ed) (fun b hb => Nat.lt_of_lt_of_le hb (Nat.le_trans Fc.above (Nat.le_of_lt Fc.ns.lt))) ⟨od, G.keep _ _ ed⟩ (hlim.keeps G.keep) (by cases F z <;> simp) fun v s₃ Gm => ?_
  have Gm' := GenNew.of_grown (rd' := fun b => b < s.heap.objs.size) Gt Gm fun b hb => .inl hb
  have hsel : selR F' [] (F z).toList = ((F z).bind F').toList := by
    cases hFz : F z with
    | none => rfl
    | some y =>
      simp only [Option.toList, selR, Option.bind]
      cases F' y <;> simp
  rw [hsel] at Gm'
  obtain ⟨_, _, _, _, _, a', _, _, _, _, _, e, _⟩ := id Gm'
  subst e
  exact hQ a' s₃ Gm'
end
end SM31
section SN21
set_option maxHeartbeats 2000000
local macro_rules | `(tactic| walk_at "PAD0") => `(tactic| skip)
section
variable {prog : Program} {w : World} {A : Around} {E : Value → Shared → Prop} {s : Shared} {env : Env} {h₀ : Heap} {L : Addr} {m : Str → Option Value} {target elt iter : Expr} {ifs : List Expr} {scope : Scope} {pos : Pos} {cl : List (Str × Addr)} {Rl : Shared → Shared → Prop} {Post : Value → Addr → Result → Shared → Prop}
structure CompBodyP (prog : Program) (w : World) (A : Around) (elt target iter : Expr) (ifs : List Expr) (scope : Scope) (pos : Pos) (cl : List (Str × Addr)) (env : Env) (Post : Value → Addr → Result → Shared → Prop) (E : Value → Shared → Prop) (it : Value) (s₂ : Shared) : Prop where
  out : wpAny (model prog w) A (newList []) (fun acc s₃ => wpAny (model prog w) A (newFunctionEnv scope env.globals cl [] env.qual none .none (some env)) (fun cenv s₄ =>
    codeAny (model prog w) A (.compStart (.ListComp elt [⟨target, iter, ifs, 0⟩] scope pos) 0 it acc { cenv with scope := relabel scope env }) (Post acc cenv.locals) s₄) E s₃) E s₂
abbrev PostA (prog : Program) (w : World) (A : Around) (E : Value → Shared → Prop) (y : Str) (py : Pos) (env : Env) (Q : Flow → Shared → Prop) : Value → Addr → Result → Shared → Prop :=
  fun acc C r s' => compPost (model prog w) A E (some (assign (.Name y py) env)) (fun _ s'' => Q .next s'') acc C r s'
theorem CompA_N {y : Str} {py spos : Pos} {Q : Flow → Shared → Prop} (hsw : swapsWith (.ListComp elt [⟨target, iter, ifs, 0⟩] scope pos) (some (.Name y py)) spos.line env = pure true)
    (hclos : closureFor scope env = pure cl) (hkind : scope.kind = .function) (hnames : ∀ y ∈ scope.names, y.2 = .local → scope.names.lookup y.1 = some .local)
    (h : wpAny (model prog w) A (eval iter env) (fun xv s₁ => wpAny (model prog w) A (pyIter xv) (CompBodyP prog w A elt target iter ifs scope pos cl env (PostA prog w A E y py env Q) E) E s₁) E s)
    (hs : ∀ x, foldedSetIterable iter env x = pure x := by intro _; rfl) : wpAny (model prog w) A (exec (.Assign [.Name y py] (.ListComp elt [⟨target, iter, ifs, 0⟩] scope pos) spos) env) Q E s := by
  rw [exec_Assign_Name_used _ _ _ _ hsw]
  refine wpAny_bind (wpAny_standAt (wpAny_bind ?_))
  show wpAny _ A (do let _ ← comprehension (.ListComp elt [⟨target, iter, ifs, 0⟩] scope pos) scope env _ (newList []) false (eval iter env) (some (assign (.Name y py) env))) _ _ s
  exact wpAny_bind (wpAny_mono (wpAny_comprehension_free (Q := fun _ s' => Q .next s') (use := some (assign (.Name y py) env)) rfl hs hclos hkind hnames (wpAny_mono h (fun _ _ h₁ => wpAny_mono h₁ (fun _ _ h₂ => h₂.out) fun _ _ e => e) fun _ _ e => e))
    (fun _ s' hq => wpAny_pure (wpAny_pure hq)) fun _ _ e => e)
theorem postA {y : Str} {py : Pos} {Q : Flow → Shared → Prop} {C Dl : Addr} {mc : Str → Option Value} {news' : Led} {s' : Shared} {ys : List Value} {nn : Nat} (hL : env.locals = L) (hkind : env.scope.kind = .function) (hy : env.kindOf y = some .local)
    (F : Fr h₀ L s'.heap m) (N : News h₀ L s'.heap ((Dl, W.listOf ys.toArray nn) :: news')) (hC : ∀ p ∈ (Dl, W.listOf ys.toArray nn) :: news', p.1 ≠ C) (hLC : L ≠ C) (h0C : h₀.get? C = none) (hn : s'.heap.Ns C mc)
    (hQ : ∀ h' tk, Fr h₀ L h' (fun z => if z = y then some (.ref Dl) else m z) → News h₀ L h' ((Dl, W.listOf ys.toArray nn) :: news') → Q .next { s' with heap := h', toks := tk }) :
    PostA prog w A E y py env Q (.ref Dl) C (.ok .next) s' := by
  subst hL
  show wpAny _ A (assign (.Name y py) env (.ref Dl)) _ E s'
  refine wpAny_assign_Name (wpAny_storeName_local hy F.ns (fun h1 hn1 hs1 => ?_) ?_)
  · refine ⟨mc, hn.sameBut hs1 (Ne.symm hLC), fun h' hs' => hQ h' _ ?_ ?_⟩
    · refine ⟨hn1.sameBut hs' hLC, fun b o e => ?_, F.above⟩
      refine hs'.extBut b o (fun h => by rw [h, h0C] at e; cases e) (hs1.extBut b o (fun h => ?_) (F.keep b o e))
      exact Nat.ne_of_lt (Nat.lt_of_lt_of_le (Heap.lt_size e) F.above) h
    · intro p hp
      exact ⟨hs'.extBut _ _ (hC p hp) (hs1.extBut _ _ (N p hp).2.1 (N p hp).1), (N p hp).2⟩
  · simp [hkind]
theorem comp_coreP {I : Addr} {fp wr : List Addr} {n : Nat} {P Md : Nat → Value → Heap → Prop} {St : Nat → Heap → Prop} {news : Led} (hR : RestOk Rl) (Wk : KTurns prog w A target I fp wr n P Md St) (hself : ∀ (s : Shared) (Q : Value → Shared → Prop) (E : Value → Shared → Prop), St 0 s.heap → Q (.ref I) s → wpAny (model prog w) A (pyIter (.ref I)) Q E s) (hlive : ∀ i h, St i h → ∀ b ∈ wr, ∃ o, h.get? b = some o)
    (hcell : ∀ y ∈ scope.names, y.2 ≠ .cell) (hkind : scope.kind = .function) (Bd : Nat → Value → (Str → Option Value) → Heap → Prop)
    (asg : ∀ C i v (s : Shared) mc (Q : Unit → Shared → Prop) (E : Value → Shared → Prop), s.heap.Ns C mc → P i v s.heap →
      (∀ h' tk mc', h'.Ns C mc' → Bd i v mc' h' → (∀ b o, b ≠ C → s.heap.get? b = some o → h'.get? b = some o) → Q () { s with heap := h', toks := tk }) → wpAny (model prog w) A (assign target (compEnvC scope cl C env) v) Q E s)
    (hfp : ∀ b ∈ fp, b < s.heap.objs.size) (hLf : L ∉ fp) (hwr : ∀ b ∈ wr, h₀.get? b = none) (hnw : ∀ p ∈ news, p.1 ∉ wr) (hst : St 0 s.heap) (F : Fr h₀ L s.heap m) (N : News h₀ L s.heap news) (hlen : n ≤ 100000)
    (J : Nat → List Value → Led → Prop) (h0 : J 0 [] news)
    (step : ∀ i v ys mc news₁ s₁ own C wr' (E : Value → Shared → Prop), i < n → (∃ h, P i v h) → J i ys news₁ → (∀ p ∈ news₁, p.1 ∉ wr') → (∀ b ∈ wr', s.heap.objs.size ≤ b ∨ b ∈ wr) → (∀ p ∈ own, p.1 ∈ fp ∨ s.heap.objs.size ≤ p.1) → (∀ b ∈ wr', ∃ o, (b, o) ∈ own) → Rl s s₁ →
      Fr h₀ L s₁.heap m → News h₀ L s₁.heap (news₁ ++ own) → s₁.heap.Ns C mc → (∃ o, (C, o) ∈ own) → Bd i v mc s₁.heap → St (i + 1) s₁.heap →
      wpAny (model prog w) A (testsOf ifs (compEnvC scope cl C env)) (fun ok s₂ => if ok = true then wpAny (model prog w) A (eval elt (compEnvC scope cl C env)) (fun y s₃ => StepC Rl h₀ L m wr' own (J (i + 1) (ys ++ [y])) s s₃) E s₂
        else StepC Rl h₀ L m wr' own (J (i + 1) ys) s s₂) E s₁)
    (rest : ∀ ys nn mc news' s' Dl C, Rl s s' → Fr h₀ L s'.heap m → News h₀ L s'.heap ((Dl, W.listOf ys.toArray nn) :: news') → (∀ p ∈ news', p.1 ≠ Dl) → (∀ p ∈ (Dl, W.listOf ys.toArray nn) :: news', p.1 ≠ C) → L ≠ C → h₀.get? C = none → s'.heap.Ns C mc → J n ys news' → Post (.ref Dl) C (.ok .next) s') :
    CompBodyP prog w A elt target iter ifs scope pos cl env Post E (.ref I) s := by
  revert prog w A E s env h₀ L m target elt iter ifs scope pos cl Rl Post I fp wr n P Md St news Bd J
  intro PK prog w A E s env h₀ L m target elt iter ifs scope pos cl Rl Post I fp wr n P Md St news
  intro hR Wk hself hlive hcell hkind
  intro PK Bd
  intro asg hfp hLf hwr hnw hst F N hlen
  intro PK J
  intro h0 step rest
  refine ⟨wpAny_newObj_type (wpAny_newFunctionEnv hcell (by intro y hy; simp at hy) (fun h₁ hns₁ hsb₁ => ?_) hkind)⟩
  dsimp only at hns₁ hsb₁ ⊢
  generalize hH2 : s.heap.push { cls := .type "list", dict := none, data := .seq ([] : List Value).toArray } = H2 at hns₁ hsb₁ ⊢
  have hC : H2.objs.size = s.heap.objs.size + 1 := by rw [← hH2, Heap.size_push]
  generalize hSS : s.heap.objs.size = S at *
  generalize hCC : H2.objs.size = C at *
  subst hC
  have hDC : S ≠ S + 1 := Nat.ne_of_lt (Nat.lt_succ_self _)
  have below : ∀ b, b < S → b ≠ S + 1 ∧ b ≠ S := fun b hb => ⟨Nat.ne_of_lt (Nat.lt_succ_of_lt hb), Nat.ne_of_lt hb⟩
  have lt : ∀ {b o}, s.heap.get? b = some o → b < S := fun e => hSS ▸ Heap.lt_size e
  have old : ∀ b o, s.heap.get? b = some o → h₁.get? b = some o := fun b o e => hsb₁.extBut b o (below b (lt e)).1 (Heap.get?_push_of_some _ (hH2 ▸ Heap.get?_push_of_some _ e))
  have hacc : h₁.get? S = some (W.listOf #[] 0) := hsb₁.extBut _ _ hDC (Heap.get?_push_of_some _ (hH2 ▸ hSS ▸ Heap.get?_push_size _ rfl))
  have hst₁ : St 0 h₁ := Wk.frame _ _ _ hst fun b _ o e => old b o e
  have fresh : ∀ a, S ≤ a → h₀.get? a = none := fun a ha => fr_new F (hSS ▸ ha)
  have hLs : L < S := hSS ▸ F.ns.lt
  have hSf : S ∉ fp := fun h => Nat.lt_irrefl _ (hfp _ h)
  have hCf : S + 1 ∉ fp := fun h => Nat.lt_irrefl _ (Nat.lt_trans (Nat.lt_succ_self _) (hfp _ h))
  have wrL : ∀ b ∈ S :: (S + 1) :: ([] ++ wr), S ≤ b ∨ b ∈ wr := fun b hb => by
    simp only [List.nil_append, List.mem_cons] at hb
    rcases hb with rfl | rfl | hb
    · exact .inl (Nat.le_refl _)
    · exact .inl (Nat.le_succ _)
    · exact .inr hb
  have loop : ∀ s₃ : Shared, s₃ = { s with heap := h₁, toks := s.toks + ([] : List (Str × Value)).length } →
      codeAny (model prog w) A (.compLoop (.ListComp elt [⟨target, iter, ifs, 0⟩] scope pos) 0 (.ref I) (.ref S) (compEnvC scope cl (S + 1) env)) (Post (.ref S) (S + 1)) s₃ := by
    rintro s₃ rfl
    refine compLoopN (s := { s with heap := h₁, toks := s.toks + ([] : List (Str × Value)).length }) (xs := []) (C := S + 1) hR Wk Bd rfl (fun i v s' mc Q E hn _ hP hQ => asg (S + 1) i v s' mc Q E hn hP fun h' tk mc' a b c => hQ h' tk mc' a b (fun _ h => nomatch h) fun b' o hb e => c b' o (fun h => hb (h ▸ List.mem_cons_self ..)) e)
      ⟨hSf, hCf, (fun _ h => nomatch h), by simp⟩ ?_ ?_ ?_ hst₁ (F.kept old) (N.keepsAll old) hacc hns₁ (fun _ h => nomatch h) hlen J h0 ?_ ?_
    · simp only [List.nil_append, List.mem_cons]
      rintro (e | e | e)
      · exact Nat.ne_of_lt hLs e
      · exact Nat.ne_of_lt (Nat.lt_succ_of_lt hLs) e
      · exact hLf e
    · intro b hb
      rcases wrL b hb with h | h
      · exact fresh b h
      · exact hwr b h
    · intro p hp hb
      rcases wrL _ hb with h | h
      · exact Nat.not_lt.mpr h (lt (N p hp).1)
      · exact hnw p hp h
    · intro i v ys mc news₁ s₁ own E' hi hP hJ ha how hr F₁ N₁ hn hb hmo hDo hst'
      have hCo : ∃ o, (S + 1, o) ∈ own := by
        obtain ⟨o, _, _, e, _⟩ := hn
        exact ⟨o, hmo _ (by walk_at "INS") (fresh _ (Nat.le_succ _)) o e⟩
      refine wpAny_mono (step i v ys mc news₁ s₁ own (S + 1) _ E' hi hP hJ ha wrL (fun p hp => ?_) (fun b hb => ?_) (hR.trans (hR.step _ _ _) hr) F₁ N₁ hn hCo hb hst') (fun ok s₂ h₂ => ?_) fun _ _ e => e
      · have := how p hp
        simp only [List.nil_append, List.mem_cons] at this
        rcases this with h | h | h
        · exact .inr (Nat.le_of_eq h.symm)
        · exact .inr (h ▸ Nat.le_succ _)
        · exact .inl h
      · simp only [List.nil_append, List.mem_cons] at hb
        rcases hb with rfl | rfl | h
        · exact hDo
        · exact hCo
        · obtain ⟨o, e⟩ := hlive _ _ hst' b h
          exact ⟨o, hmo b (by simp [Wk.sub b h]) (hwr b h) o e⟩
      · cases ok with
        | true =>
          simp only [if_true] at h₂ ⊢
          exact wpAny_mono h₂ (fun y s₃ h₃ => step_back hR h₃) fun _ _ e => e
        | false =>
          simp only [Bool.false_eq_true, if_false] at h₂ ⊢
          exact step_back hR h₂
    · intro ys nn mc news' s' hr F' N' ha hJ hD hn
      refine rest ys nn mc news' s' S (S + 1) (hR.trans (hR.step _ _ _) hr) F' ?_ (fun p hp h => ha p hp (by simp [h])) ?_ (Nat.ne_of_lt (Nat.lt_succ_of_lt hLs)) (fresh _ (Nat.le_succ _)) hn hJ
      · intro p hp
        rcases List.mem_cons.mp hp with rfl | hp
        · exact ⟨hD, Nat.ne_of_gt hLs, fresh _ (Nat.le_refl _)⟩
        · exact N' p hp
      · intro p hp
        rcases List.mem_cons.mp hp with rfl | hp
        · exact hDC
        · exact fun h => ha p hp (by simp [h])
  exact codeAny_compStart_list (loop _ rfl) (hself _ _ _ hst₁ (loop _ rfl))
theorem comp_listP {x : Str} {px : Pos} {l : Addr} {items : Array Value} {news : Led} (hR : RestOk Rl) (J : Nat → List Value → Led → Prop) (hh : A.handled = none) (hcell : ∀ y ∈ scope.names, y.2 ≠ .cell) (hkind : scope.kind = .function) (hx : scope.names.lookup x = some .local)
    (F : Fr h₀ L s.heap m) (N : News h₀ L s.heap news) (hl : s.heap.IsList l items) (hlL : l ≠ L) (hlen : items.size ≤ 100000) (h0 : J 0 [] news)
    (step : ∀ i v ys mc news₁ s₁ own C wr' (E : Value → Shared → Prop), items[i]? = some v → J i ys news₁ → (∀ p ∈ news₁, p.1 ∉ wr') → (∀ b ∈ wr', s.heap.objs.size ≤ b) → (∀ p ∈ own, p.1 = l ∨ s.heap.objs.size ≤ p.1) → (∀ b ∈ wr', ∃ o, (b, o) ∈ own) → Rl s s₁ →
      Fr h₀ L s₁.heap m → News h₀ L s₁.heap (news₁ ++ own) → s₁.heap.Ns C mc → (∃ o, (C, o) ∈ own) → mc x = some v → s₁.heap.IsList l items →
      wpAny (model prog w) A (testsOf ifs (compEnvC scope cl C env)) (fun ok s₂ => if ok = true then wpAny (model prog w) A (eval elt (compEnvC scope cl C env)) (fun y s₃ => StepC Rl h₀ L m wr' own (J (i + 1) (ys ++ [y])) s s₃) E s₂
        else StepC Rl h₀ L m wr' own (J (i + 1) ys) s s₂) E s₁)
    (rest : ∀ ys nn mc news' s' Dl C, Rl s s' → Fr h₀ L s'.heap m → News h₀ L s'.heap ((Dl, W.listOf ys.toArray nn) :: news') → (∀ p ∈ news', p.1 ≠ Dl) → (∀ p ∈ (Dl, W.listOf ys.toArray nn) :: news', p.1 ≠ C) → L ≠ C → h₀.get? C = none → s'.heap.Ns C mc → J items.size ys news' → Post (.ref Dl) C (.ok .next) s') :
    wpAny (model prog w) A (pyIter (.ref l)) (CompBodyP prog w A elt (.Name x px) iter ifs scope pos cl env Post E) E s := by
  refine wpAny_pyIter_list hl ?_
  have hlt : l < s.heap.objs.size := let ⟨_, e, _⟩ := hl; Heap.lt_size e
  have hLs : L < s.heap.objs.size := F.ns.lt
  have hk : ∀ b o, s.heap.get? b = some o → (s.heap.push { cls := .type "list_iterator", data := .fields #[.ref l, .int 0 0] }).get? b = some o := fun b o e => Heap.get?_push_of_some _ e
  have hsz : (s.heap.push { cls := .type "list_iterator", data := .fields #[.ref l, .int 0 0] }).objs.size = s.heap.objs.size + 1 := Heap.size_push ..
  refine comp_coreP (s := { s with heap := s.heap.push { cls := .type "list_iterator", data := .fields #[.ref l, .int 0 0] } }) hR (turnsList hh (Nat.ne_of_lt hlt) fun v hv => GoList.name) (fun s Q E st hQ => wpAny_pyIter_listiter st.1 hQ)
    (fun i h st b hb => by
      obtain rfl : b = s.heap.objs.size := by simpa using hb
      obtain ⟨o, e, _⟩ := st.1
      exact ⟨o, e⟩) hcell hkind (fun _ v mc h => mc x = some v) (asg_name (P := fun i v _ => items[i]? = some v) hkind hx) ?_ ?_ ?_ ?_ ?_ (F.kept hk) (N.keepsAll hk) hlen J h0 ?_ ?_
  · intro b hb
    rw [hsz]
    have hb' : b = s.heap.objs.size ∨ b = l := by simpa using hb
    rcases hb' with rfl | rfl
    · exact Nat.lt_succ_self _
    · exact Nat.lt_succ_of_lt hlt
  · simp only [List.mem_cons, List.not_mem_nil, or_false]
    rintro (e | e)
    · exact Nat.ne_of_lt hLs e
    · exact hlL e.symm
  · intro b hb
    obtain rfl : b = s.heap.objs.size := by simpa using hb
    exact fr_new F (Nat.le_refl _)
  · intro p hp hb
    exact Nat.ne_of_lt (Heap.lt_size (N p hp).1) (by simpa using hb)
  · exact ⟨⟨_, Heap.get?_push_size _ rfl, rfl, rfl⟩, hl.at fun o e => hk l o e⟩
  · intro i v ys mc news₁ s₁ own C wr' E' hi hP hJ ha hw how hmo hr F₁ N₁ hn hCo hb hst
    obtain ⟨_, hP⟩ := hP
    refine wpAny_mono (step i v ys mc news₁ s₁ own C wr' E' hP hJ ha (fun b hb => ?_) (fun p hp => ?_) hmo (hR.trans (hR.step _ _ _) hr) F₁ N₁ hn hCo hb hst.2) (fun ok s₂ h₂ => ?_) fun _ _ e => e
    · rcases hw b hb with h | h
      · rw [hsz] at h; exact Nat.le_of_succ_le h
      · exact Nat.le_of_eq (by simpa using h : b = s.heap.objs.size).symm
    · rcases how p hp with h | h
      · have hb' : p.1 = s.heap.objs.size ∨ p.1 = l := by simpa using h
        rcases hb' with e | e
        · exact .inr (Nat.le_of_eq e.symm)
        · exact .inl e
      · rw [hsz] at h; exact .inr (Nat.le_of_succ_le h)
    · cases ok with
      | true =>
        simp only [if_true] at h₂ ⊢
        exact wpAny_mono h₂ (fun y s₃ h₃ => step_back (tk := s.toks) hR h₃) fun _ _ e => e
      | false =>
        simp only [Bool.false_eq_true, if_false] at h₂ ⊢
        exact step_back (tk := s.toks) hR h₂
  · intro ys nn mc news' s' Dl C hr F' N' ha hC hLC h0C hn hJ
    exact rest ys nn mc news' s' Dl C (hR.trans (hR.step _ _ _) hr) F' N' ha hC hLC h0C hn hJ
theorem comp_enumP {xa xb : Str} {pa pb pt : Pos} {kt : Nat} {l : Addr} {items : Array Value} {news : Led} (hR : RestOk Rl) (J : Nat → List Value → Led → Prop) (hh : A.handled = none) (hcell : ∀ y ∈ scope.names, y.2 ≠ .cell) (hkind : scope.kind = .function) (hxa : scope.names.lookup xa = some .local) (hxb : scope.names.lookup xb = some .local) (hab : xa ≠ xb)
    (F : Fr h₀ L s.heap m) (N : News h₀ L s.heap news) (hl : s.heap.IsList l items) (hlL : l ≠ L) (hlen : items.size ≤ 100000) (h0 : J 0 [] news)
    (step : ∀ i x t ys mc news₁ s₁ own C wr' (E : Value → Shared → Prop), items[i]? = some x → J i ys news₁ → (∀ p ∈ news₁, p.1 ∉ wr') → (∀ b ∈ wr', s.heap.objs.size ≤ b) → (∀ q ∈ own, q.1 = l ∨ s.heap.objs.size ≤ q.1) → (∀ b ∈ wr', ∃ o, (b, o) ∈ own) → Rl s s₁ →
      Fr h₀ L s₁.heap m → News h₀ L s₁.heap (news₁ ++ own) → s₁.heap.Ns C mc → (∃ o, (C, o) ∈ own) → mc xa = some (.int (i : Int) t) → mc xb = some x → s₁.heap.IsList l items →
      wpAny (model prog w) A (testsOf ifs (compEnvC scope cl C env)) (fun ok s₂ => if ok = true then wpAny (model prog w) A (eval elt (compEnvC scope cl C env)) (fun y s₃ => StepC Rl h₀ L m wr' own (J (i + 1) (ys ++ [y])) s s₃) E s₂
        else StepC Rl h₀ L m wr' own (J (i + 1) ys) s s₂) E s₁)
    (rest : ∀ ys nn mc news' s' Dl C, Rl s s' → Fr h₀ L s'.heap m → News h₀ L s'.heap ((Dl, W.listOf ys.toArray nn) :: news') → (∀ p ∈ news', p.1 ≠ Dl) → (∀ p ∈ (Dl, W.listOf ys.toArray nn) :: news', p.1 ≠ C) → L ≠ C → h₀.get? C = none → s'.heap.Ns C mc → J items.size ys news' → Post (.ref Dl) C (.ok .next) s') :
    wpAny (model prog w) A (call (.type "enumerate") [.ref l]) (fun xv s₁ => wpAny (model prog w) A (pyIter xv) (CompBodyP prog w A elt (.Tuple [.Name xa pa, .Name xb pb] kt pt) iter ifs scope pos cl env Post E) E s₁) E s := by
  revert prog w A E s env h₀ L m elt iter ifs scope pos cl Rl Post xa xb pa pb pt kt l items news J
  intro PK prog w A E s env h₀ L m elt iter ifs scope pos cl Rl Post xa xb pa pb pt kt l items news
  intro hR
  intro PK J
  intro hh hcell hkind hxa hxb hab F N hl hlL hlen h0 step rest
  have hlt : l < s.heap.objs.size := let ⟨_, e, _⟩ := hl; Heap.lt_size e
  have hLs : L < s.heap.objs.size := F.ns.lt
  refine call_enumerate_list hl fun h' hE' hI hsz hk => ?_
  refine wpAny_pyIter_enum hE' ?_
  have hszn : s.heap.objs.size ≤ h'.objs.size := by
    have := Heap.lt_size hE'
    omega
  refine comp_coreP (s := { s with heap := h' }) hR (KTurns.ofWalksU (WalksT.enumerate hh (s.heap.objs.size + 1) s.heap.objs.size l (Nat.succ_ne_self _) (lt_ne 1 hlt) (Nat.ne_of_lt hlt) items).toU) (fun s Q E st hQ => wpAny_pyIter_enum st.1.choose_spec hQ)
    (fun i h st b hb => by
      have hb' : b = s.heap.objs.size + 1 ∨ b = s.heap.objs.size := by simpa using hb
      rcases hb' with rfl | rfl
      · obtain ⟨⟨_, e⟩, _⟩ := st; exact ⟨_, e⟩
      · obtain ⟨_, ⟨o, e, _⟩, _⟩ := st; exact ⟨o, e⟩) hcell hkind _ (asg_pair hh hkind hxa hxb hab (P := fun i v h => ∃ T vals, v = .ref T ∧ (∃ t x, items[i]? = some x ∧ vals = #[.int (i : Int) t, x]) ∧ h.IsTuple T vals) fun i v h hp => by
        obtain ⟨T, vals, rfl, ⟨t, x, hx, rfl⟩, hT⟩ := hp
        exact ⟨_, _, _, rfl, hT⟩) ?_ ?_ ?_ ?_ ?_ (F.kept hk) (N.keepsAll hk) hlen J h0 ?_ ?_
  · intro b hb
    have hb' : b = s.heap.objs.size + 1 ∨ b = s.heap.objs.size ∨ b = l := by simpa using hb
    have h2 := Heap.lt_size hE'
    show @LT.lt Nat _ b h'.objs.size
    replace h2 : @LT.lt Nat _ (s.heap.objs.size + 1) h'.objs.size := h2
    replace hlt : @LT.lt Nat _ l s.heap.objs.size := hlt
    rcases hb' with rfl | rfl | rfl <;> omega
  · intro hI'
    have hb' : L = s.heap.objs.size + 1 ∨ L = s.heap.objs.size ∨ L = l := by simpa using hI'
    rcases hb' with e | e | e
    · exact lt_ne 1 hLs e
    · exact Nat.ne_of_lt hLs e
    · exact hlL e.symm
  · intro b hb
    have hb' : b = s.heap.objs.size + 1 ∨ b = s.heap.objs.size := by simpa using hb
    rcases hb' with rfl | rfl
    · exact fr_new F (Nat.le_add_right _ _)
    · exact fr_new F (Nat.le_refl _)
  · intro p hp hI'
    have hb' : p.1 = s.heap.objs.size + 1 ∨ p.1 = s.heap.objs.size := by simpa using hI'
    have hlp := Heap.lt_size (N p hp).1
    rcases hb' with e | e
    · exact lt_ne 1 hlp e
    · exact Nat.ne_of_lt hlp e
  · exact ⟨⟨.none, hE'⟩, hI, hl.at fun o e => hk l o e⟩
  · intro i v ys mc news₁ s₁ own C wr' E' hi hP hJ ha hw how hmo hr F₁ N₁ hn hCo hb hst
    obtain ⟨h9, T, a, b, ⟨T', vals, e1, ⟨t, x, hx, rfl⟩, hT'⟩, rfl, hT9, ea, eb⟩ := hb
    cases e1
    have et : (#[a, b] : Array Value) = #[.int (i : Int) t, x] := by
      obtain ⟨o1, x1, x2, n1, x3⟩ := hT9
      obtain ⟨o2, y1, y2, n2, y3⟩ := hT'
      obtain rfl : o1 = o2 := Option.some.inj (x1.symm.trans y1)
      rw [x3] at y3
      injection y3
    simp only [Array.mk.injEq, List.cons.injEq, and_true] at et
    obtain ⟨rfl, rfl⟩ := et
    refine wpAny_mono (step i b t ys mc news₁ s₁ own C wr' E' hx hJ ha (fun b hb => ?_) (fun q hq => ?_) hmo (hR.trans (hR.step _ _ _) hr) F₁ N₁ hn hCo ea eb hst.2.2) (fun ok s₂ h₂ => ?_) fun _ _ e => e
    · rcases hw b hb with h | h
      · exact Nat.le_trans hszn h
      · have hb' : b = s.heap.objs.size + 1 ∨ b = s.heap.objs.size := by simpa using h
        rcases hb' with rfl | rfl
        · exact Nat.le_add_right _ _
        · exact Nat.le_refl _
    · rcases how q hq with h | h
      · have hb' : q.1 = s.heap.objs.size + 1 ∨ q.1 = s.heap.objs.size ∨ q.1 = l := by simpa using h
        rcases hb' with e | e | e
        · exact .inr (e ▸ Nat.le_add_right _ _)
        · exact .inr (Nat.le_of_eq e.symm)
        · exact .inl e
      · exact .inr (Nat.le_trans hszn h)
    · cases ok with
      | true =>
        simp only [if_true] at h₂ ⊢
        exact wpAny_mono h₂ (fun y s₃ h₃ => step_back (tk := s.toks) hR h₃) fun _ _ e => e
      | false =>
        simp only [Bool.false_eq_true, if_false] at h₂ ⊢
        exact step_back (tk := s.toks) hR h₂
  · intro ys nn mc news' s' Dl C hr F' N' ha hC hLC h0C hn hJ
    exact rest ys nn mc news' s' Dl C (hR.trans (hR.step _ _ _) hr) F' N' ha hC hLC h0C hn hJ
end
end SN21
section SN27
set_option maxHeartbeats 2000000
section
variable {prog : Program} {w : World} {A : Around} {E : Value → Shared → Prop} {s : Shared} {env cenv : Env} {h₀ : Heap} {L : Addr} {m : Str → Option Value} {target : Expr} {Rl : Shared → Shared → Prop}
theorem compLoopX {PX : Obj → Prop} {elt iter : Expr} {ifs : List Expr} {scope : Scope} {pos : Pos} {I Dl C : Addr} {fp wr xs : List Addr} {n : Nat} {P Md : Nat → Value → Heap → Prop} {St : Nat → Heap → Prop} {news : Led} {mc₀ : Str → Option Value} (hR : RestOk Rl) (Wk : KTurns prog w A target I fp wr n P Md St)
    (Bd : Nat → Value → (Str → Option Value) → Heap → Prop) (hC : cenv.locals = C)
    (asg : ∀ i v (s : Shared) mc (Q : Unit → Shared → Prop) (E : Value → Shared → Prop), s.heap.Ns C mc → (∀ b ∈ xs, ∃ o, PX o ∧ s.heap.get? b = some o) → P i v s.heap →
      (∀ h' tk mc', h'.Ns C mc' → Bd i v mc' h' → (∀ b ∈ xs, ∃ o, PX o ∧ h'.get? b = some o) → (∀ b o, b ∉ C :: xs → s.heap.get? b = some o → h'.get? b = some o) → Q () { s with heap := h', toks := tk }) → wpAny (model prog w) A (assign target cenv v) Q E s)
    (hap : Dl ∉ fp ∧ C ∉ fp ∧ (∀ b ∈ xs, b ∉ fp) ∧ Dl ∉ C :: xs) (hL : L ∉ Dl :: C :: (xs ++ fp)) (hnew : ∀ b ∈ Dl :: C :: (xs ++ wr), h₀.get? b = none)
    (hnw : ∀ p ∈ news, p.1 ∉ Dl :: C :: (xs ++ wr)) (hst : St 0 s.heap) (F : Fr h₀ L s.heap m) (N : News h₀ L s.heap news) (hD : s.heap.get? Dl = some (W.listOf #[] 0)) (hns : s.heap.Ns C mc₀) (hxs : ∀ b ∈ xs, ∃ o, PX o ∧ s.heap.get? b = some o) (hlen : n ≤ 100000)
    (J : Nat → List Value → Led → Prop) (h0 : J 0 [] news)
    (step : ∀ i v ys mc news₁ s₁ own (E : Value → Shared → Prop), i < n → (∃ h, P i v h) → J i ys news₁ → (∀ p ∈ news₁, p.1 ∉ Dl :: C :: (xs ++ wr)) → (∀ p ∈ own, p.1 ∈ Dl :: C :: (xs ++ fp)) → Rl s s₁ →
      Fr h₀ L s₁.heap m → News h₀ L s₁.heap (news₁ ++ own) → s₁.heap.Ns C mc → Bd i v mc s₁.heap → (∀ b ∈ Dl :: C :: (xs ++ fp), h₀.get? b = none → ∀ o, s₁.heap.get? b = some o → (b, o) ∈ own) → (∃ o, (Dl, o) ∈ own) → St (i + 1) s₁.heap →
      wpAny (model prog w) A (testsOf ifs cenv) (fun ok s₂ => if ok = true then wpAny (model prog w) A (eval elt cenv) (fun y s₃ => StepC Rl h₀ L m (Dl :: C :: (xs ++ wr)) own (J (i + 1) (ys ++ [y])) s s₃) E s₂
        else StepC Rl h₀ L m (Dl :: C :: (xs ++ wr)) own (J (i + 1) ys) s s₂) E s₁)
    {R : Result → Shared → Prop}
    (rest : ∀ ys nn mc news' s', Rl s s' → Fr h₀ L s'.heap m → News h₀ L s'.heap news' → (∀ p ∈ news', p.1 ∉ Dl :: C :: (xs ++ wr)) → J n ys news' → s'.heap.get? Dl = some (W.listOf ys.toArray nn) → s'.heap.Ns C mc → R (.ok .next) s') :
    codeAny (model prog w) A (.compLoop (.ListComp elt [⟨target, iter, ifs, 0⟩] scope pos) 0 (.ref I) (.ref Dl) cenv) R s := by
  revert prog w A s cenv h₀ L m target Rl PX elt iter ifs scope pos I Dl C fp wr xs n P Md St news mc₀ Bd J R
  intro PK prog w A s cenv h₀ L m target Rl PX elt iter ifs scope pos I Dl C fp wr xs n P Md St news mc₀
  intro hR Wk
  intro PK Bd
  intro hC asg hap hL hnew hnw hst F N hD hns hxs hlen
  intro PK J
  intro h0 step
  intro PK R
  intro rest
  obtain ⟨ap1, ap2, ap3, ap4⟩ := hap
  have old : ∀ b o, h₀.get? b = some o → b ∉ Dl :: C :: (xs ++ wr) := fun b o e hb => by rw [hnew b hb] at e; cases e
  have wrD : ∀ {b}, b ∈ wr → b ∈ Dl :: C :: (xs ++ wr) := fun h => List.mem_cons_of_mem _ (List.mem_cons_of_mem _ (List.mem_append_right _ h))
  have cxD : ∀ {b}, b ∈ C :: xs → b ∈ Dl :: C :: (xs ++ wr) := fun h => List.mem_cons_of_mem _ (by rcases List.mem_cons.mp h with rfl | h; exact List.mem_cons_self ..; exact List.mem_cons_of_mem _ (List.mem_append_left _ h))
  have hLw : L ∉ Dl :: C :: (xs ++ wr) := fun h => hL (by
    simp only [List.mem_cons, List.mem_append] at h ⊢
    rcases h with h | h | h | h
    · exact .inl h
    · exact .inr (.inl h)
    · exact .inr (.inr (.inl h))
    · exact .inr (.inr (.inr (Wk.sub _ h))))
  have next : ∀ {h h₁ : Heap} {news' : Led}, Fr h₀ L h m → News h₀ L h news' → (∀ p ∈ news', p.1 ∉ Dl :: C :: (xs ++ wr)) → (∀ b o, b ∉ Dl :: C :: (xs ++ wr) → h.get? b = some o → h₁.get? b = some o) → Fr h₀ L h₁ m ∧ News h₀ L h₁ news' := fun F' N' hnw' hk₁ =>
    ⟨⟨F'.ns.at' fun o e => hk₁ _ o hLw e, fun b o e => hk₁ b o (old b o e) (F'.keep b o e), F'.above⟩, fun p hp => ⟨hk₁ _ _ (hnw' p hp) (N' p hp).1, (N' p hp).2⟩⟩
  refine codeAny_loop rfl
    (fun k s' => ∃ ys nn mc news' i, Rl s s' ∧ St i s'.heap ∧ Fr h₀ L s'.heap m ∧ News h₀ L s'.heap news' ∧ (∀ p ∈ news', p.1 ∉ Dl :: C :: (xs ++ wr)) ∧ J i ys news' ∧ s'.heap.get? Dl = some (W.listOf ys.toArray nn) ∧ s'.heap.Ns C mc ∧ (∀ b ∈ xs, ∃ o, PX o ∧ s'.heap.get? b = some o) ∧ ys.length ≤ i ∧ i ≤ n ∧ k = n + 1 - i) (fun k s' hI => ?_) (n + 1)
    ⟨[], 0, mc₀, news, 0, hR.refl s, hst, F, N, hnw, h0, hD, hns, hxs, Nat.le_refl _, Nat.zero_le _, rfl⟩
  obtain ⟨ys, nn, mc, news', i, hrl, hst', F', N', hnw', hJ, hD', hns', hxs', hyl, hi, rfl⟩ := hI
  show wpAny _ A ((compTurn (.ListComp elt [⟨target, iter, ifs, 0⟩] scope pos) 0 (.ref I) (.ref Dl) cenv).onRaise (fun x => do noteFrame x cenv; theTreesLotGoes x)) _ _ s'
  refine wpAny_onRaise (wp_false ?_)
  rw [compTurn_list]
  refine wpAny_bind (wpAny_standAt (wpAny_bind ?_))
  by_cases hlt : i < n
  · refine Wk.item i _ _ _ hlt hst' fun v h₁ tk₁ hMd hk₁ => ?_
    refine wpAny_bind (Wk.go i v _ _ _ hMd fun h₂ hP hst₂ hk₂ => ?_)
    have k₂ : ∀ b o, b ∉ wr → s'.heap.get? b = some o → h₂.get? b = some o := fun b o hb e => hk₂ b o hb (hk₁ b o hb e)
    have hCw : C ∉ wr := fun h => ap2 (Wk.sub _ h)
    have hDw : Dl ∉ wr := fun h => ap1 (Wk.sub _ h)
    have hxw : ∀ b ∈ xs, b ∉ wr := fun b hb h => ap3 b hb (Wk.sub _ h)
    refine wpAny_bind (asg i v _ mc _ _ (hns'.at' fun o e => k₂ _ o hCw e) (fun b hb => let ⟨o, q, e⟩ := hxs' b hb; ⟨o, q, k₂ b o (hxw b hb) e⟩) hP fun h₃ tk₃ mc₃ hn₃ hb₃ hx₃ hk₃ => ?_)
    have k₃ : ∀ b o, b ∉ Dl :: C :: (xs ++ wr) → s'.heap.get? b = some o → h₃.get? b = some o := fun b o hb e => hk₃ b o (fun h => hb (cxD h)) (k₂ b o (fun h => hb (wrD h)) e)
    obtain ⟨F₃, N₃⟩ := next F' N' hnw' k₃
    have hst₃ : St (i + 1) h₃ := Wk.frame _ _ _ hst₂ fun b hb o e => hk₃ b o (fun h => by
      rcases List.mem_cons.mp h with rfl | h
      · exact ap2 hb
      · exact ap3 b h hb) e
    have hD₃ : h₃.get? Dl = some (W.listOf ys.toArray nn) := hk₃ _ _ ap4 (k₂ _ _ hDw hD')
    have Nown : News h₀ L h₃ (PyProof.Rows.ownOf h₀ (Dl :: C :: (xs ++ fp)) h₃) := news_ownOf hL
    have done : ∀ (s₄ : Shared) (y : Value) (X : Led → Prop), StepC Rl h₀ L m (Dl :: C :: (xs ++ wr)) (PyProof.Rows.ownOf h₀ (Dl :: C :: (xs ++ fp)) h₃) X s s₄ →
        ∃ news₄, Rl s s₄ ∧ St (i + 1) s₄.heap ∧ Fr h₀ L s₄.heap m ∧ News h₀ L s₄.heap news₄ ∧ (∀ p ∈ news₄, p.1 ∉ Dl :: C :: (xs ++ wr)) ∧ X news₄ ∧ s₄.heap.get? Dl = some (W.listOf ys.toArray nn) ∧ s₄.heap.Ns C mc₃ ∧ ∀ b ∈ xs, ∃ o, PX o ∧ s₄.heap.get? b = some o := by
      intro s₄ y X z1q
      obtain ⟨m₄, news₄, hr₄, F₄, N₄, ha₄, rfl, hX⟩ := z1q
      have kp : ∀ b ∈ Dl :: C :: (xs ++ fp), ∀ o, h₃.get? b = some o → s₄.heap.get? b = some o := fun b hb o e => by
        cases hn : h₀.get? b with
        | some o₀ =>
          have : o₀ = o := by have q := F₃.keep b o₀ hn; rw [e] at q; exact (Option.some.inj q).symm
          exact this ▸ F₄.keep b o₀ hn
        | none => exact (N₄ _ (List.mem_append_right _ (mem_ownOf hb hn e))).1
      refine ⟨news₄, hr₄, ?_, F₄, fun p hp => N₄ p (List.mem_append_left _ hp), ha₄, hX, kp _ (List.mem_cons_self ..) _ hD₃, hn₃.at' fun o e => kp C (List.mem_cons_of_mem _ (List.mem_cons_self ..)) o e, fun b hb => let ⟨o, q, e⟩ := hx₃ b hb; ⟨o, q, kp b (List.mem_cons_of_mem _ (List.mem_cons_of_mem _ (List.mem_append_left _ hb))) o e⟩⟩
      exact Wk.frame _ _ _ hst₃ fun b hb o e => kp b (List.mem_cons_of_mem _ (List.mem_cons_of_mem _ (List.mem_append_right _ hb))) o e
    refine wpAny_bind (wpAny_mono (step i v ys mc₃ news' _ (PyProof.Rows.ownOf h₀ (Dl :: C :: (xs ++ fp)) h₃) (fun _ _ => False) hlt ⟨_, hP⟩ hJ hnw' ownOf_sub (hR.trans hrl (hR.step _ h₃ tk₃)) F₃ (N₃.append Nown) hn₃ hb₃ (fun b hb hn o e => mem_ownOf hb hn e) ⟨_, mem_ownOf (List.mem_cons_self ..) (hnew _ (List.mem_cons_self ..)) hD₃⟩ hst₃) (fun ok s₄ h₄ => ?_) fun _ _ e => e)
    cases ok with
    | false =>
      simp only [Bool.false_eq_true, if_false] at h₄ ⊢
      obtain ⟨news₄, hr₄, hst₄, F₄, N₄, ha₄, hX, hD₄, hns₄, hx₄⟩ := done s₄ .none _ h₄
      exact wpAny_pure ⟨rfl, _, by omega, ys, nn, mc₃, news₄, i + 1, hr₄, hst₄, F₄, N₄, ha₄, hX, hD₄, hns₄, hx₄, by omega, hlt, rfl⟩
    | true =>
      simp only [if_true] at h₄ ⊢
      refine wpAny_bind (wpAny_bind (wpAny_mono h₄ (fun y s₅ h₅ => ?_) fun _ _ e => e))
      obtain ⟨news₄, hr₄, hst₄, F₄, N₄, ha₄, hX, hD₄, hns₄, hx₄⟩ := done s₅ y _ h₅
      refine wpAny_bind ?_
      refine append_at hD₄ (fun h₆ hs₆ ho₆ => ?_) (by rw [List.size_toArray]; unfold sizeLine; omega)
      refine wpAny_pure (wpAny_pure ⟨rfl, _, ?_, ys ++ [y], nn + 1, mc₃, news₄, i + 1, hR.trans hr₄ (hR.step s₅ h₆ s₅.toks), ?_, ?_, ?_, ha₄, hX, ?_, ?_, ?_, ?_, hlt, rfl⟩)
      · omega
      · exact Wk.frame _ _ _ hst₄ fun b hb o e => hs₆.extBut b o (fun h => ap1 (h ▸ hb)) e
      · exact (next F₄ N₄ ha₄ fun b o hb e => hs₆.extBut b o (fun h => hb (h ▸ List.mem_cons_self ..)) e).1
      · exact (next F₄ N₄ ha₄ fun b o hb e => hs₆.extBut b o (fun h => hb (h ▸ List.mem_cons_self ..)) e).2
      · rw [ho₆]; simp
      · exact hns₄.sameBut hs₆ (fun h => ap4 (h ▸ List.mem_cons_self ..))
      · exact fun b hb => let ⟨o, q, e⟩ := hx₄ b hb; ⟨o, q, hs₆.extBut b o (fun h => ap4 (h ▸ List.mem_cons_of_mem _ hb)) e⟩
      · simp; omega
  · have hin : i = n := by omega
    subst hin
    refine Wk.done _ _ _ hst' fun h₁ tk₁ hk₁ => wpAny_pure ?_
    have hk₁' : ∀ b o, b ∉ Dl :: C :: (xs ++ wr) → s'.heap.get? b = some o → h₁.get? b = some o := fun b o hb e => hk₁ b o (fun h => hb (wrD h)) e
    obtain ⟨F₁, N₁⟩ := next F' N' hnw' hk₁'
    exact rest ys nn mc news' _ (hR.trans hrl (hR.step _ h₁ tk₁)) F₁ N₁ hnw' hJ (hk₁ _ _ (fun h => ap1 (Wk.sub _ h)) hD') (hns'.at' fun o e => hk₁ _ o (fun h => ap2 (Wk.sub _ h)) e)
end
theorem newEnv_one {M : Model} {A : Around} {E : Value → Shared → Prop} {s : Shared} {scope : Scope} {globals : Addr} {cl : List (Str × Addr)} {qual : Str} {env : Env} {x : Str} {Q : Env → Shared → Prop}
    (hcf : ∀ n, cellsFrom n scope.names cl = (x, n) :: cl) (hpu : ∀ h : Heap, pushCells h scope.names = h.push { cls := .type "cell", data := .cell none })
    (hQ : Q { scope := scope, locals := s.heap.objs.size, globals := globals, cells := (x, (s.heap.push { cls := .type "dict", data := .dict #[] }).objs.size) :: cl, qual := qual, func := none, code := env.code, frame := env.frame, builtins := env.builtins } { s with heap := (s.heap.push { cls := .type "dict", data := .dict #[] }).push { cls := .type "cell", data := .cell none } }) :
    wpAny M A (newFunctionEnv scope globals cl [] qual none .none (some env)) Q E s := by
  simp only [newFunctionEnv, Option.isSome_some, if_true]
  refine wpAny_bind (wpAny_alloc ?_)
  refine wpAny_bind (wpAny_layCells _ (fun name kind cells => by cases hkc : kind == NameKind.cell <;> simp [hkc]) _ _ _ _ ?_)
  rw [hcf, hpu]
  refine wpAny_bind ?_
  rw [List.forIn_nil]
  exact wpAny_pure (wpAny_pure hQ)
section
variable {prog : Program} {w : World} {A : Around} {E : Value → Shared → Prop} {s : Shared} {env : Env} {h₀ : Heap} {L : Addr} {m : Str → Option Value} {target elt iter : Expr} {ifs : List Expr} {scope : Scope} {pos : Pos} {Rl : Shared → Shared → Prop} {Post : Value → Addr → Result → Shared → Prop}
abbrev CompBodyX (prog : Program) (w : World) (A : Around) (elt target iter : Expr) (ifs : List Expr) (scope : Scope) (pos : Pos) (cl : List (Str × Addr)) (env : Env) (Post : Value → Addr → Result → Shared → Prop) (E : Value → Shared → Prop) (it : Value) (s₂ : Shared) : Prop := CompBodyP prog w A elt target iter ifs scope pos cl env Post E it s₂
theorem comp_coreX {x : Str} {cl₀ : List (Str × Addr)} {I : Addr} {fp wr : List Addr} {n : Nat} {P Md : Nat → Value → Heap → Prop} {St : Nat → Heap → Prop} {news : Led} (hR : RestOk Rl) (Wk : KTurns prog w A target I fp wr n P Md St) (hself : ∀ (s : Shared) (Q : Value → Shared → Prop) (E : Value → Shared → Prop), St 0 s.heap → Q (.ref I) s → wpAny (model prog w) A (pyIter (.ref I)) Q E s) (hlive : ∀ i h, St i h → ∀ b ∈ wr, ∃ o, h.get? b = some o)
    (hcf : ∀ n, cellsFrom n scope.names cl₀ = (x, n) :: cl₀) (hpu : ∀ h : Heap, pushCells h scope.names = h.push { cls := .type "cell", data := .cell none }) (hkind : scope.kind = .function) 
    (asg : ∀ C kc i v (s : Shared) mc (Q : Unit → Shared → Prop) (E : Value → Shared → Prop), s.heap.Ns C mc → C ≠ kc → (∃ o v₀, s.heap.get? kc = some o ∧ o.data = .cell v₀) → P i v s.heap →
      (∀ h' tk, h'.Ns C mc → h'.IsCell kc (some v) → (∀ b o, b ≠ kc → s.heap.get? b = some o → h'.get? b = some o) → Q () { s with heap := h', toks := tk }) → wpAny (model prog w) A (assign target (compEnvC scope ((x, kc) :: cl₀) C env) v) Q E s)
    (hfp : ∀ b ∈ fp, b < s.heap.objs.size) (hLf : L ∉ fp) (hwr : ∀ b ∈ wr, h₀.get? b = none) (hnw : ∀ p ∈ news, p.1 ∉ wr) (hst : St 0 s.heap) (F : Fr h₀ L s.heap m) (N : News h₀ L s.heap news) (hlen : n ≤ 100000)
    (J : Nat → List Value → Led → Prop) (h0 : J 0 [] news)
    (step : ∀ i v ys mc news₁ s₁ own C kc wr' (E : Value → Shared → Prop), i < n → (∃ h, P i v h) → J i ys news₁ → (∀ p ∈ news₁, p.1 ∉ wr') → (∀ b ∈ wr', s.heap.objs.size ≤ b ∨ b ∈ wr) → (∀ p ∈ own, p.1 ∈ fp ∨ s.heap.objs.size ≤ p.1) → (∀ b ∈ wr', ∃ o, (b, o) ∈ own) → Rl s s₁ →
      Fr h₀ L s₁.heap m → News h₀ L s₁.heap (news₁ ++ own) → s₁.heap.Ns C mc → (∃ o, (kc, o) ∈ own ∧ o.data = .cell (some v)) → St (i + 1) s₁.heap →
      wpAny (model prog w) A (testsOf ifs (compEnvC scope ((x, kc) :: cl₀) C env)) (fun ok s₂ => if ok = true then wpAny (model prog w) A (eval elt (compEnvC scope ((x, kc) :: cl₀) C env)) (fun y s₃ => StepC Rl h₀ L m wr' own (J (i + 1) (ys ++ [y])) s s₃) E s₂
        else StepC Rl h₀ L m wr' own (J (i + 1) ys) s s₂) E s₁)
    (rest : ∀ ys nn mc news' s' Dl C, Rl s s' → Fr h₀ L s'.heap m → News h₀ L s'.heap ((Dl, W.listOf ys.toArray nn) :: news') → (∀ p ∈ news', p.1 ≠ Dl) → (∀ p ∈ (Dl, W.listOf ys.toArray nn) :: news', p.1 ≠ C) → L ≠ C → h₀.get? C = none → s'.heap.Ns C mc → J n ys news' → Post (.ref Dl) C (.ok .next) s') :
    CompBodyX prog w A elt target iter ifs scope pos cl₀ env Post E (.ref I) s := by
  revert prog w A E s env h₀ L m target elt iter ifs scope pos Rl Post x cl₀ I fp wr n P Md St news J
  intro PK prog w A E s env h₀ L m target elt iter ifs scope pos Rl Post x cl₀ I fp wr n P Md St news
  intro hR Wk hself hlive hcf hpu hkind asg hfp hLf hwr hnw hst F N hlen
  intro PK J
  intro h0 step rest
  refine ⟨wpAny_newObj_type ?_⟩
  refine newEnv_one hcf hpu ?_
  dsimp only
  generalize hH2 : s.heap.push { cls := .type "list", dict := none, data := .seq ([] : List Value).toArray } = H2
  have hC : H2.objs.size = s.heap.objs.size + 1 := by rw [← hH2, Heap.size_push]
  have hK : (H2.push { cls := .type "dict", data := .dict #[] }).objs.size = s.heap.objs.size + 1 + 1 := by rw [Heap.size_push, hC]
  have hns₀ : ((H2.push { cls := .type "dict", data := .dict #[] }).push { cls := .type "cell", data := .cell none }).Ns H2.objs.size (fun _ => none) := (Heap.Ns.new H2 (.type "dict")).keeps fun b o e => Heap.get?_push_of_some _ e
  have hkc : ((H2.push { cls := .type "dict", data := .dict #[] }).push { cls := .type "cell", data := .cell none }).get? (H2.push { cls := .type "dict", data := .dict #[] }).objs.size = some { cls := .type "cell", data := .cell none } := Heap.get?_push_size _ rfl
  have hold₁ : ∀ b o, s.heap.get? b = some o → ((H2.push { cls := .type "dict", data := .dict #[] }).push { cls := .type "cell", data := .cell none }).get? b = some o := fun b o e => Heap.get?_push_of_some _ (Heap.get?_push_of_some _ (hH2 ▸ Heap.get?_push_of_some _ e))
  have hacc₁ : ((H2.push { cls := .type "dict", data := .dict #[] }).push { cls := .type "cell", data := .cell none }).get? s.heap.objs.size = some (W.listOf #[] 0) := Heap.get?_push_of_some _ (Heap.get?_push_of_some _ (hH2 ▸ Heap.get?_push_size _ rfl))
  generalize hh1 : (H2.push { cls := .type "dict", data := .dict #[] }).push { cls := .type "cell", data := .cell none } = h₁ at hns₀ hkc hold₁ hacc₁ ⊢
  rw [hK] at hkc ⊢
  rw [hC] at hns₀ ⊢
  generalize hSS : s.heap.objs.size = S at *
  have hDC : S ≠ S + 1 := Nat.ne_of_lt (Nat.lt_succ_self _)
  have below : ∀ b, b < S → b ≠ S + 1 ∧ b ≠ S := fun b hb => ⟨Nat.ne_of_lt (Nat.lt_succ_of_lt hb), Nat.ne_of_lt hb⟩
  have lt : ∀ {b o}, s.heap.get? b = some o → b < S := fun e => hSS ▸ Heap.lt_size e
  have old : ∀ b o, s.heap.get? b = some o → h₁.get? b = some o := hold₁
  have hacc : h₁.get? S = some (W.listOf #[] 0) := hacc₁
  have hCK : S + 1 ≠ S + 1 + 1 := Nat.ne_of_lt (Nat.lt_succ_self _)
  have hDK : S ≠ S + 1 + 1 := Nat.ne_of_lt (Nat.lt_succ_of_lt (Nat.lt_succ_self _))
  have hst₁ : St 0 h₁ := Wk.frame _ _ _ hst fun b _ o e => old b o e
  have fresh : ∀ a, S ≤ a → h₀.get? a = none := fun a ha => fr_new F (hSS ▸ ha)
  have hLs : L < S := hSS ▸ F.ns.lt
  have hSf : S ∉ fp := fun h => Nat.lt_irrefl _ (hfp _ h)
  have hCf : S + 1 ∉ fp := fun h => Nat.lt_irrefl _ (Nat.lt_trans (Nat.lt_succ_self _) (hfp _ h))
  have hKf : S + 1 + 1 ∉ fp := fun h => Nat.lt_irrefl _ (Nat.lt_trans (Nat.lt_trans (Nat.lt_succ_self _) (Nat.lt_succ_self _)) (hfp _ h))
  have wrL : ∀ b ∈ S :: (S + 1) :: ([S + 1 + 1] ++ wr), S ≤ b ∨ b ∈ wr := fun b hb => by
    simp only [List.cons_append, List.nil_append, List.mem_cons] at hb
    rcases hb with rfl | rfl | rfl | hb
    · exact .inl (Nat.le_refl _)
    · exact .inl (Nat.le_succ _)
    · exact .inl (Nat.le_trans (Nat.le_succ _) (Nat.le_succ _))
    · exact .inr hb
  have loop : ∀ s₃ : Shared, s₃ = { s with heap := h₁, toks := s.toks } →
      codeAny (model prog w) A (.compLoop (.ListComp elt [⟨target, iter, ifs, 0⟩] scope pos) 0 (.ref I) (.ref S) (compEnvC scope ((x, S + 1 + 1) :: cl₀) (S + 1) env)) (Post (.ref S) (S + 1)) s₃ := by
    rintro s₃ rfl
    have hX1 : ∀ b ∈ [S + 1 + 1], b ∉ fp := by
      intro b hb
      rw [List.mem_singleton.mp hb]
      exact hKf
    have hX2 : ∀ b ∈ [S + 1 + 1], ∃ o : Obj, (∃ v₀, o.data = .cell v₀) ∧ h₁.get? b = some o := by
      intro b hb
      rw [List.mem_singleton.mp hb]
      exact ⟨_, ⟨none, rfl⟩, hkc⟩
    refine compLoopX (PX := fun o => ∃ v₀, o.data = .cell v₀) (s := { s with heap := h₁, toks := s.toks }) (xs := [S + 1 + 1]) (C := S + 1) (cenv := compEnvC scope ((x, S + 1 + 1) :: cl₀) (S + 1) env) hR Wk (fun _ v _ h => h.IsCell (S + 1 + 1) (some v)) rfl ?_
      ⟨hSf, hCf, hX1, by simp only [List.mem_cons, List.not_mem_nil, or_false]; rintro (e | e); exact hDC e; exact hDK e⟩ ?_ ?_ ?_ hst₁ (F.kept old) (N.keepsAll old) hacc hns₀ hX2 hlen J h0 ?_ ?_
    · intro i v s' mc Q E hn hx hP hQ
      obtain ⟨o, ⟨v₀, hd⟩, e⟩ := hx (S + 1 + 1) (List.mem_singleton.mpr rfl)
      exact asg (S + 1) (S + 1 + 1) i v s' mc Q E hn hCK ⟨o, v₀, e, hd⟩ hP fun h' tk hn' hc' hk' => hQ h' tk mc hn' hc' (fun b hb => by
        obtain rfl : b = S + 1 + 1 := by simpa using hb
        obtain ⟨o', e', hd'⟩ := hc'
        exact ⟨o', ⟨_, hd'⟩, e'⟩) fun b o hb e => hk' b o (fun h => hb (h ▸ by simp)) e
    · simp only [List.cons_append, List.nil_append, List.mem_cons]
      rintro (e | e | e | e)
      · exact Nat.ne_of_lt hLs e
      · exact Nat.ne_of_lt (Nat.lt_succ_of_lt hLs) e
      · exact Nat.ne_of_lt (Nat.lt_succ_of_lt (Nat.lt_succ_of_lt hLs)) e
      · exact hLf e
    · intro b hb
      rcases wrL b hb with h | h
      · exact fresh b h
      · exact hwr b h
    · intro p hp hb
      rcases wrL _ hb with h | h
      · exact Nat.not_lt.mpr h (lt (N p hp).1)
      · exact hnw p hp h
    · intro i v ys mc news₁ s₁ own E' hi hP hJ ha how hr F₁ N₁ hn hb hmo hDo hst'
      have hCo : ∃ o, (S + 1, o) ∈ own := by
        obtain ⟨o, _, _, e, _⟩ := hn
        exact ⟨o, hmo _ (by walk_at "INS") (fresh _ (Nat.le_succ _)) o e⟩
      have hKo : ∃ o, (S + 1 + 1, o) ∈ own ∧ o.data = .cell (some v) := by
        obtain ⟨o, e, hd⟩ := hb
        exact ⟨o, hmo _ (by walk_at "INS") (fresh _ (Nat.le_trans (Nat.le_succ _) (Nat.le_succ _))) o e, hd⟩
      refine wpAny_mono (step i v ys mc news₁ s₁ own (S + 1) (S + 1 + 1) _ E' hi hP hJ ha wrL (fun p hp => ?_) (fun b hb => ?_) (hR.trans (hR.step _ _ _) hr) F₁ N₁ hn hKo hst') (fun ok s₂ h₂ => ?_) fun _ _ e => e
      · have := how p hp
        simp only [List.cons_append, List.nil_append, List.mem_cons] at this
        rcases this with h | h | h | h
        · exact .inr (Nat.le_of_eq h.symm)
        · exact .inr (h ▸ Nat.le_succ _)
        · exact .inr (h ▸ Nat.le_trans (Nat.le_succ _) (Nat.le_succ _))
        · exact .inl h
      · simp only [List.cons_append, List.nil_append, List.mem_cons] at hb
        rcases hb with rfl | rfl | rfl | h
        · exact hDo
        · exact hCo
        · exact ⟨_, hKo.choose_spec.1⟩
        · obtain ⟨o, e⟩ := hlive _ _ hst' b h
          exact ⟨o, hmo b (by simp [Wk.sub b h]) (hwr b h) o e⟩
      · cases ok with
        | true =>
          simp only [if_true] at h₂ ⊢
          exact wpAny_mono h₂ (fun y s₃ h₃ => step_back hR h₃) fun _ _ e => e
        | false =>
          simp only [Bool.false_eq_true, if_false] at h₂ ⊢
          exact step_back hR h₂
    · intro ys nn mc news' s' hr F' N' ha hJ hD hn
      refine rest ys nn mc news' s' S (S + 1) (hR.trans (hR.step _ _ _) hr) F' ?_ (fun p hp h => ha p hp (by simp [h])) ?_ (Nat.ne_of_lt (Nat.lt_succ_of_lt hLs)) (fresh _ (Nat.le_succ _)) hn hJ
      · intro p hp
        rcases List.mem_cons.mp hp with rfl | hp
        · exact ⟨hD, Nat.ne_of_gt hLs, fresh _ (Nat.le_refl _)⟩
        · exact N' p hp
      · intro p hp
        rcases List.mem_cons.mp hp with rfl | hp
        · exact hDC
        · exact fun h => ha p hp (by simp [h])
  exact codeAny_compStart_list (loop _ rfl) (hself _ _ _ hst₁ (loop _ rfl))
theorem comp_listX {cl₀ : List (Str × Addr)} {x : Str} {px : Pos} {l : Addr} {items : Array Value} {news : Led} (hR : RestOk Rl) (J : Nat → List Value → Led → Prop) (hh : A.handled = none) (hcf : ∀ n, cellsFrom n scope.names cl₀ = (x, n) :: cl₀) (hpu : ∀ h : Heap, pushCells h scope.names = h.push { cls := .type "cell", data := .cell none }) (hkind : scope.kind = .function) (hx : ((relabel scope env).names).lookup x = some .cell)
    (F : Fr h₀ L s.heap m) (N : News h₀ L s.heap news) (hl : s.heap.IsList l items) (hlL : l ≠ L) (hlen : items.size ≤ 100000) (h0 : J 0 [] news)
    (step : ∀ i v ys mc news₁ s₁ own C kc wr' (E : Value → Shared → Prop), items[i]? = some v → J i ys news₁ → (∀ p ∈ news₁, p.1 ∉ wr') → (∀ b ∈ wr', s.heap.objs.size ≤ b) → (∀ p ∈ own, p.1 = l ∨ s.heap.objs.size ≤ p.1) → (∀ b ∈ wr', ∃ o, (b, o) ∈ own) → Rl s s₁ →
      Fr h₀ L s₁.heap m → News h₀ L s₁.heap (news₁ ++ own) → s₁.heap.Ns C mc → (∃ o, (kc, o) ∈ own ∧ o.data = .cell (some v)) → s₁.heap.IsList l items →
      wpAny (model prog w) A (testsOf ifs (compEnvC scope ((x, kc) :: cl₀) C env)) (fun ok s₂ => if ok = true then wpAny (model prog w) A (eval elt (compEnvC scope ((x, kc) :: cl₀) C env)) (fun y s₃ => StepC Rl h₀ L m wr' own (J (i + 1) (ys ++ [y])) s s₃) E s₂
        else StepC Rl h₀ L m wr' own (J (i + 1) ys) s s₂) E s₁)
    (rest : ∀ ys nn mc news' s' Dl C, Rl s s' → Fr h₀ L s'.heap m → News h₀ L s'.heap ((Dl, W.listOf ys.toArray nn) :: news') → (∀ p ∈ news', p.1 ≠ Dl) → (∀ p ∈ (Dl, W.listOf ys.toArray nn) :: news', p.1 ≠ C) → L ≠ C → h₀.get? C = none → s'.heap.Ns C mc → J items.size ys news' → Post (.ref Dl) C (.ok .next) s') :
    wpAny (model prog w) A (pyIter (.ref l)) (CompBodyX prog w A elt (.Name x px) iter ifs scope pos cl₀ env Post E) E s := by
  refine wpAny_pyIter_list hl ?_
  have hlt : l < s.heap.objs.size := let ⟨_, e, _⟩ := hl; Heap.lt_size e
  have hLs : L < s.heap.objs.size := F.ns.lt
  have hk : ∀ b o, s.heap.get? b = some o → (s.heap.push { cls := .type "list_iterator", data := .fields #[.ref l, .int 0 0] }).get? b = some o := fun b o e => Heap.get?_push_of_some _ e
  have hsz : (s.heap.push { cls := .type "list_iterator", data := .fields #[.ref l, .int 0 0] }).objs.size = s.heap.objs.size + 1 := Heap.size_push ..
  refine comp_coreX (s := { s with heap := s.heap.push { cls := .type "list_iterator", data := .fields #[.ref l, .int 0 0] } }) hR (turnsList hh (Nat.ne_of_lt hlt) fun v hv => GoList.name) (fun s Q E st hQ => wpAny_pyIter_listiter st.1 hQ)
    (fun i h st b hb => by
      obtain rfl : b = s.heap.objs.size := by simpa using hb
      obtain ⟨o, e, _⟩ := st.1
      exact ⟨o, e⟩) hcf hpu hkind (P := fun i v _ => items[i]? = some v) (fun C kc i v s' mc Q E hn hCk ⟨o, v₀, e, hd⟩ _ hQ => wpAny_assign_Name (wpAny_storeName_cell hkind hx (by simp [compEnvC]) ⟨o, e, hd⟩ fun h' hc' hs' => hQ h' _ (hn.sameBut hs' hCk) hc' fun b o hb e => hs'.extBut b o hb e)) ?_ ?_ ?_ ?_ ?_ (F.kept hk) (N.keepsAll hk) hlen J h0 ?_ ?_
  · intro b hb
    rw [hsz]
    have hb' : b = s.heap.objs.size ∨ b = l := by simpa using hb
    rcases hb' with rfl | rfl
    · exact Nat.lt_succ_self _
    · exact Nat.lt_succ_of_lt hlt
  · simp only [List.mem_cons, List.not_mem_nil, or_false]
    rintro (e | e)
    · exact Nat.ne_of_lt hLs e
    · exact hlL e.symm
  · intro b hb
    obtain rfl : b = s.heap.objs.size := by simpa using hb
    exact fr_new F (Nat.le_refl _)
  · intro p hp hb
    exact Nat.ne_of_lt (Heap.lt_size (N p hp).1) (by simpa using hb)
  · exact ⟨⟨_, Heap.get?_push_size _ rfl, rfl, rfl⟩, hl.at fun o e => hk l o e⟩
  · intro i v ys mc news₁ s₁ own C kc wr' E' hi hP hJ ha hw how hmo hr F₁ N₁ hn hb hst
    obtain ⟨_, hP⟩ := hP
    refine wpAny_mono (step i v ys mc news₁ s₁ own C kc wr' E' hP hJ ha (fun b hb => ?_) (fun p hp => ?_) hmo (hR.trans (hR.step _ _ _) hr) F₁ N₁ hn hb hst.2) (fun ok s₂ h₂ => ?_) fun _ _ e => e
    · rcases hw b hb with h | h
      · rw [hsz] at h; exact Nat.le_of_succ_le h
      · exact Nat.le_of_eq (by simpa using h : b = s.heap.objs.size).symm
    · rcases how p hp with h | h
      · have hb' : p.1 = s.heap.objs.size ∨ p.1 = l := by simpa using h
        rcases hb' with e | e
        · exact .inr (Nat.le_of_eq e.symm)
        · exact .inl e
      · rw [hsz] at h; exact .inr (Nat.le_of_succ_le h)
    · cases ok with
      | true =>
        simp only [if_true] at h₂ ⊢
        exact wpAny_mono h₂ (fun y s₃ h₃ => step_back (tk := s.toks) hR h₃) fun _ _ e => e
      | false =>
        simp only [Bool.false_eq_true, if_false] at h₂ ⊢
        exact step_back (tk := s.toks) hR h₂
  · intro ys nn mc news' s' Dl C hr F' N' ha hC hLC h0C hn hJ
    exact rest ys nn mc news' s' Dl C (hR.trans (hR.step _ _ _) hr) F' N' ha hC hLC h0C hn hJ
theorem Comp_P {cl : List (Str × Addr)} {Q : Value → Shared → Prop} (hclos : closureFor scope env = pure cl) (hkind : scope.kind = .function) (hnames : ∀ y ∈ scope.names, y.2 = .local → scope.names.lookup y.1 = some .local)
    (h : wpAny (model prog w) A (eval iter env) (fun xv s₁ => wpAny (model prog w) A (pyIter xv) (CompBodyP prog w A elt target iter ifs scope pos cl env (fun acc C => compPost (model prog w) A E none Q acc C) E) E s₁) E s)
    (hs : ∀ x, foldedSetIterable iter env x = pure x := by intro _; rfl) : wpAny (model prog w) A (eval (.ListComp elt [⟨target, iter, ifs, 0⟩] scope pos) env) Q E s := by
  rw [eval_ListComp]
  exact wpAny_comprehension_free (use := none) rfl hs hclos hkind hnames (wpAny_mono h (fun _ _ h₁ => wpAny_mono h₁ (fun _ _ h₂ => h₂.out) fun _ _ e => e) fun _ _ e => e)
theorem postN {Q : Value → Shared → Prop} {C Dl : Addr} {mc : Str → Option Value} {news' : Led} {s' : Shared} {ys : List Value} {nn : Nat}
    (F : Fr h₀ L s'.heap m) (N : News h₀ L s'.heap ((Dl, W.listOf ys.toArray nn) :: news')) (hC : ∀ p ∈ (Dl, W.listOf ys.toArray nn) :: news', p.1 ≠ C) (hLC : L ≠ C) (h0C : h₀.get? C = none) (hn : s'.heap.Ns C mc)
    (hQ : ∀ h', Fr h₀ L h' m → News h₀ L h' ((Dl, W.listOf ys.toArray nn) :: news') → Q (.ref Dl) { s' with heap := h' }) :
    compPost (model prog w) A E none Q (.ref Dl) C (.ok .next) s' :=
  ⟨mc, hn, fun h' hs' => hQ h' ⟨F.ns.sameBut hs' hLC, fun b o e => hs'.extBut b o (fun h => by rw [h, h0C] at e; cases e) (F.keep b o e), F.above⟩ fun p hp => ⟨hs'.extBut _ _ (hC p hp) (N p hp).1, (N p hp).2⟩⟩
end
end SN27
section SM24
set_option maxHeartbeats 2000000
local macro_rules | `(tactic| walk_at "PAD0") => `(tactic| skip)
def capZ (x y : Str) : Str := Txt.join y ((Txt.split x y).map Txt.capitalize)
def capFit (x y : Str) : Bool := (Txt.split x y).all (fun p => decide (p.length ≤ 5592405)) && decide ((Txt.split x y).length ≤ sizeLine) && JoinOk y ((Txt.split x y).map Txt.capitalize)
theorem cap_ok (w : World) {x y : Str} {t u : Tok} {news : Led} (hx : x.length ≤ 100000) (hy : (y.length == 0) = false) (hy2 : y.length ≤ 100000) (hf : capFit x y = true) : Ctr w 345 350 (.ref 60) [.str x t, .str y u] news (fun v news' => (∃ k, v = .str (capZ x y) k) ∧ news' = news) := by
  revert w x y t u news
  intro PK w x y t u news
  intro hx hy hy2 hf
  intro mean mg mb gd cn cs a ccd cl outer A₀ base h₀ L m s Q E B₀ F₀ X₀ N₀ T₀ hk₀ hret
  walk_at "MINE enter"
  rename_i g' L' h₁ FG F' N B X T
  have hyn : y.length ≠ 0 := by simpa using hy
  k_steps
  all_goals try (exfalso; omega)
  refine wp_le (A' := { handled := none, depth := 370, frames := _, guards := _, units := 600 }) rfl (by show 345 + 1 ≤ 370; decide) rfl rfl (by show 350 + 3 ≤ 600; decide) (cap_attr (h := h₁) (X.keeps F'.keep) ?_)
  k_steps
  rename_i lp h2 k2 e1 e2 e3 e4 F2 N2
  refine wp_le (A' := { handled := none, depth := 370, frames := _, guards := _, units := 600 }) rfl (by show 345 + 1 ≤ 370; decide) rfl rfl (by show 350 + 3 ≤ 600; decide) (map_made (h := h2) (X.keeps F2.keep) (N2.get (.head _)) fun I tp it h3 tk os' D ho => ?_)
  subst ho
  have kp := mem_keep D
  have hI : IsMap h3 I tp := (D.nw _ (.head _)).1
  have hT : IsOne h3 tp it := (D.nw _ (.tail _ (.head _))).1
  have hit : h3.IsListIter it h₁.objs.size 0 := ⟨_, (D.nw _ (.tail _ (.tail _ (.head _)))).1, rfl, rfl⟩
  have fit : h2.get? it = none := (D.nw _ (.tail _ (.tail _ (.head _)))).2
  have hlp : h3.IsList h₁.objs.size (strValues lp).toArray := e4.at fun o e => kp _ o e
  have hne1 : I ≠ it := fun e => by have := hit; rw [← e] at this; obtain ⟨o, e', c', _⟩ := this; rw [hI] at e'; cases e'; simp at c'
  have hne2 : tp ≠ it := fun e => by have := hit; rw [← e] at this; obtain ⟨o, e', c', _⟩ := this; rw [hT] at e'; cases e'; simp at c'
  have hne3 : h₁.objs.size ≠ it := fun e => by obtain ⟨o, e', _⟩ := e4; rw [e] at e'; rw [e'] at fit; cases fit
  have F3 := F2.kept kp
  have N3 := N2.keepsAll kp
  have F2' := And.intro F2 N2
  clear F2 N2
  k_steps
  have hall : (Txt.split x y).all (fun p => decide (p.length ≤ 5592405)) = true ∧ (Txt.split x y).length ≤ sizeLine ∧ JoinOk y ((Txt.split x y).map Txt.capitalize) = true := by
    unfold capFit at hf
    simp only [Bool.and_eq_true, decide_eq_true_eq] at hf
    exact ⟨hf.1.1, hf.1.2, hf.2⟩
  have hmm : (lp.map fun p => Txt.capitalize p.1) = (Txt.split x y).map Txt.capitalize := by rw [← e1, List.map_map]; rfl
  refine join_map rfl hI hT hit hlp hne1 hne2 hne3 (fun p hp => ?_) ?_ ?_ fun h4 t' k4 hk4 => ?_
  · have := List.all_eq_true.mp hall.1 p.1 (by rw [← e1]; exact List.mem_map_of_mem hp)
    simpa using this
  · have := hall.2.1
    rw [← e1] at this
    simpa using this
  · rw [hmm]; exact hall.2.2
  · rw [hmm]
    have k24 : ∀ b o, h2.get? b = some o → h4.get? b = some o := fun b o e => hk4 b o (fun h => by rw [h, fit] at e; cases e) (kp b o e)
    try walk_at "QK"
    exact leaveK_ (F2'.1.kept k24) (F2'.2.keepsAll k24) fun F N => hret _ _ _ _ ⟨⟨_, rfl⟩, rfl⟩ F (N.perm fun p hp => List.mem_cons_of_mem _ hp)
end SM24
section SM25
set_option maxHeartbeats 2000000
abbrev blank : Str := Str.ofString " "
def capZ0 (x : Str) : Str := Txt.join blank ((Txt.words x).map Txt.capitalize)
def capFit0 (x : Str) : Bool := (Txt.words x).all (fun p => decide (p.length ≤ 5592405)) && decide ((Txt.words x).length ≤ sizeLine) && JoinOk blank ((Txt.words x).map Txt.capitalize)
theorem cap0_ok (w : World) {x : Str} {t : Tok} {news : Led} (hx : x.length ≤ 100000) (hf : capFit0 x = true) : Ctr w 345 350 (.ref 60) [.str x t] news (fun v news' => (∃ k, v = .str (capZ0 x) k) ∧ news' = news) := by
  revert w x t news
  intro PK w x t news
  intro hx hf
  intro mean mg mb gd cn cs a ccd cl outer A₀ base h₀ L m s Q E B₀ F₀ X₀ N₀ T₀ hk₀ hret
  walk_at "MINE enter"
  rename_i g' L' h₁ FG F' N B X T
  k_steps
  refine wp_le (A' := { handled := none, depth := 370, frames := _, guards := _, units := 600 }) rfl (by show 345 + 1 ≤ 370; decide) rfl rfl (by show 350 + 3 ≤ 600; decide) (cap_attr (h := h₁) (X.keeps F'.keep) ?_)
  k_steps
  rename_i lp h2 k2 e1 e2 e3 e4 F2 N2
  refine wp_le (A' := { handled := none, depth := 370, frames := _, guards := _, units := 600 }) rfl (by show 345 + 1 ≤ 370; decide) rfl rfl (by show 350 + 3 ≤ 600; decide) (map_made (h := h2) (X.keeps F2.keep) (N2.get (.head _)) fun I tp it h3 tk os' D ho => ?_)
  subst ho
  have kp := mem_keep D
  have hI : IsMap h3 I tp := (D.nw _ (.head _)).1
  have hT : IsOne h3 tp it := (D.nw _ (.tail _ (.head _))).1
  have hit : h3.IsListIter it h₁.objs.size 0 := ⟨_, (D.nw _ (.tail _ (.tail _ (.head _)))).1, rfl, rfl⟩
  have fit : h2.get? it = none := (D.nw _ (.tail _ (.tail _ (.head _)))).2
  have hlp : h3.IsList h₁.objs.size (strValues lp).toArray := e4.at fun o e => kp _ o e
  have hne1 : I ≠ it := fun e => by have := hit; rw [← e] at this; obtain ⟨o, e', c', _⟩ := this; rw [hI] at e'; cases e'; simp at c'
  have hne2 : tp ≠ it := fun e => by have := hit; rw [← e] at this; obtain ⟨o, e', c', _⟩ := this; rw [hT] at e'; cases e'; simp at c'
  have hne3 : h₁.objs.size ≠ it := fun e => by obtain ⟨o, e', _⟩ := e4; rw [e] at e'; rw [e'] at fit; cases fit
  have F3 := F2.kept kp
  have N3 := N2.keepsAll kp
  have F2' := And.intro F2 N2
  clear F2 N2
  k_steps
  have hall : (Txt.words x).all (fun p => decide (p.length ≤ 5592405)) = true ∧ (Txt.words x).length ≤ sizeLine ∧ JoinOk blank ((Txt.words x).map Txt.capitalize) = true := by
    unfold capFit0 at hf
    simp only [Bool.and_eq_true, decide_eq_true_eq] at hf
    exact ⟨hf.1.1, hf.1.2, hf.2⟩
  have hmm : (lp.map fun p => Txt.capitalize p.1) = (Txt.words x).map Txt.capitalize := by rw [← e1, List.map_map]; rfl
  refine join_map rfl hI hT hit hlp hne1 hne2 hne3 (fun p hp => ?_) ?_ ?_ fun h4 t' k4 hk4 => ?_
  · have := List.all_eq_true.mp hall.1 p.1 (by rw [← e1]; exact List.mem_map_of_mem hp)
    simpa using this
  · have := hall.2.1
    rw [← e1] at this
    simpa using this
  · rw [hmm]; exact hall.2.2
  · rw [hmm]
    have k24 : ∀ b o, h2.get? b = some o → h4.get? b = some o := fun b o e => hk4 b o (fun h => by rw [h, fit] at e; cases e) (kp b o e)
    try walk_at "QK"
    exact leaveK_ (F2'.1.kept k24) (F2'.2.keepsAll k24) fun F N => hret _ _ _ _ ⟨⟨_, rfl⟩, rfl⟩ F (N.perm fun p hp => List.mem_cons_of_mem _ hp)
end SM25
section SM26
set_option maxHeartbeats 2000000
local macro_rules | `(tactic| walk_at "PAD0") => `(tactic| skip)
section
variable {prog : Program} {w : World} {A : Around} {E : Value → Shared → Prop} {s : Shared} {env : Env}
theorem comp1 {x : String} {px pos : Pos} {elt iter : Expr} {ifs : List Expr} {scope : Scope} {cl : List (Str × Addr)} {xs : List Str} {Q : Value → Shared → Prop} (pz : Str → Bool) (ev : Str → Str)
    (hclos : closureFor scope env = pure cl) (hcell : ∀ y ∈ scope.names, y.2 ≠ .cell) (hkind : scope.kind = .function) (hnames : ∀ y ∈ scope.names, y.2 = .local → scope.names.lookup y.1 = some .local) (hx : scope.names.lookup (Str.ofString x) = some .local)
    (hh : A.handled = none) (hlen : xs.length ≤ 100000)
    (hi : ∀ (Q E : Value → Shared → Prop), (∀ l h' tk (ps : List (Str × Tok)), (∀ b o, s.heap.get? b = some o → h'.get? b = some o) → h'.IsList l (strValues ps).toArray → ps.map (·.1) = xs → Q (.ref l) { s with heap := h', toks := tk }) → wpAny (model prog w) A (eval iter env) Q E s)
    (tests : ∀ C z t s₃ m₃ E', z ∈ xs → s₃.heap.Ns C m₃ → m₃ (Str.ofString x) = some (.str z t) → (∀ b o, s.heap.get? b = some o → s₃.heap.get? b = some o) →
      wpAny (model prog w) A (forIn ifs true fun c r => if r = true then do let ok ← isTrue c (compEnvC scope cl C env) (eval c (compEnvC scope cl C env)); pure (ForInStep.yield ok) else pure (ForInStep.yield r)) (fun ok s₄ => ok = pz z ∧ Keeps s₃ s₄) E' s₃)
    (helt : ∀ C z t s₃ m₃ E', z ∈ xs → pz z = true → s₃.heap.Ns C m₃ → m₃ (Str.ofString x) = some (.str z t) → (∀ b o, s.heap.get? b = some o → s₃.heap.get? b = some o) →
      wpAny (model prog w) A (eval elt (compEnvC scope cl C env)) (fun y s₄ => (∃ k, y = .str (ev z) k) ∧ Keeps s₃ s₄) E' s₃)
    (hQ : ∀ Dl h' tk ts, s.heap.get? Dl = none → (∀ b o, s.heap.get? b = some o → h'.get? b = some o) → h'.PlainList Dl (strValues ts).toArray → ts.map (·.1) = (xs.filter pz).map ev → Q (.ref Dl) { s with heap := h', toks := tk })
    (hs : ∀ x, foldedSetIterable iter env x = pure x := by intro _; rfl) :
    wpAny (model prog w) A (eval (.ListComp elt [⟨nm x px, iter, ifs, 0⟩] scope pos) env) Q E s := by
  revert prog w A E s env x px pos elt iter ifs scope cl xs Q pz ev
  intro PK prog w A E s env x px pos elt iter ifs scope cl xs Q pz ev
  intro hclos hcell hkind hnames hx hh hlen hi tests helt hQ hs
  let pv : Value → Bool := fun v => match v with | .str z _ => pz z | _ => false
  let Fv : Value → Value → Prop := fun v y => match v with | .str z _ => ∃ k, y = .str (ev z) k | _ => False
  refine wpAny_ListComp_free pv Fv hclos hcell hkind hnames hx (hi _ _ fun l h' tk ps hk hl hps => ?_) hs
  subst hps
  simp only [List.length_map] at hlen
  refine wpAny_pyIter_list hl ?_
  have hll : l < h'.objs.size := let ⟨_, e, _⟩ := hl; Heap.lt_size e
  have W := Walks.list (prog := prog) (w := w) hh h'.objs.size l (Nat.ne_of_lt hll) (strValues ps).toArray
  have mem : ∀ (i : Nat) (v : Value), (strValues ps).toArray[i]? = some v → ∃ z t, v = Value.str z t ∧ z ∈ ps.map (·.1) := fun i v e => by
    have e' : (strValues ps)[i]? = some v := by simpa using e
    obtain ⟨hi, rfl⟩ := List.getElem?_eq_some_iff.mp e'
    simp only [strValues, List.getElem_map]
    exact ⟨_, _, rfl, List.mem_map_of_mem (List.getElem_mem _)⟩
  have k₂ : ∀ b o, s.heap.get? b = some o → (h'.push { cls := .type "list_iterator", data := .fields #[.ref l, .int 0 0] }).get? b = some o ∧ b ≠ h'.objs.size := fun b o e => ⟨Heap.get?_push_of_some _ (hk b o e), Nat.ne_of_lt (Heap.lt_size (hk b o e))⟩
  refine ⟨h'.objs.size, _, _, _, _, _, rfl, W, by simp [strValues]; unfold sizeLine; omega, ⟨⟨_, Heap.get?_push_size _ rfl, rfl, rfl⟩, hl.at fun o e => Heap.get?_push_of_some _ e⟩, ?_, ⟨fun C i v s₃ m₃ E' _ hP hn hm hk3 _ => ?_, fun C i v s₃ m₃ E' _ hP hp hn hm hk3 _ => ?_⟩, fun Dl h3 tk3 ys vs hD _ hpl hvl hvs hF hk3 => ?_⟩
  · intro b hb
    simp at hb
    rw [Heap.size_push]
    rcases hb with rfl | rfl
    · exact Nat.lt_succ_self _
    · exact Nat.lt_succ_of_lt hll
  · obtain ⟨z, t, rfl, hz⟩ := mem i v hP
    exact tests C z t s₃ m₃ E' hz hn hm fun b o e => hk3 b o (by simp [(k₂ b o e).2]) (k₂ b o e).1
  · obtain ⟨z, t, rfl, hz⟩ := mem i v hP
    exact helt C z t s₃ m₃ E' hz hp hn hm fun b o e => hk3 b o (by simp [(k₂ b o e).2]) (k₂ b o e).1
  · have hvs' : vs = strValues ps := by
      refine List.ext_getElem? fun j => ?_
      by_cases hj : j < vs.length
      · have := hvs j vs[j] (List.getElem?_eq_getElem hj)
        rw [List.getElem?_eq_getElem hj]
        simpa using this.symm
      · rw [List.getElem?_eq_none (Nat.not_lt.mp hj), List.getElem?_eq_none]
        have : (strValues ps).toArray.size = vs.length := hvl.symm
        simp at this
        omega
    subst hvs'
    have key : ∀ (qs : List (Str × Tok)) (ys : List Value), Paired Fv ((strValues qs).filter pv) ys → ∃ ts, ys = strValues ts ∧ ts.map (·.1) = ((qs.map (·.1)).filter pz).map ev := by
      intro qs
      induction qs with
      | nil => intro ys h; cases h; exact ⟨[], rfl, rfl⟩
      | cons q qs ih =>
        intro ys h
        have hsv : strValues (q :: qs) = .str q.1 q.2 :: strValues qs := rfl
        rw [hsv, List.filter_cons] at h
        by_cases hq : pz q.1 = true
        · rw [if_pos (show pv (.str q.1 q.2) = true from hq)] at h
          cases h with
          | cons h1 h2 =>
            obtain ⟨ts, rfl, ht⟩ := ih _ h2
            obtain ⟨k, rfl⟩ := h1
            exact ⟨(ev q.1, k) :: ts, rfl, by simp [hq, ht]⟩
        · rw [if_neg (show ¬ pv (.str q.1 q.2) = true from hq)] at h
          obtain ⟨ts, rfl, ht⟩ := ih _ h
          exact ⟨ts, rfl, by simp [hq, ht]⟩
    obtain ⟨ts, hts, ht⟩ := key ps ys.toList hF
    have hys : ys = (strValues ts).toArray := by rw [← hts]
    rw [hys] at hpl
    refine hQ Dl h3 tk3 ts ?_ (fun b o e => hk3 b o (by simp [(k₂ b o e).2]) (k₂ b o e).1) hpl ht
    cases e : s.heap.get? Dl with
    | none => rfl
    | some o => have := (k₂ Dl o e).1; rw [show (h'.push { cls := .type "list_iterator", data := .fields #[.ref l, .int 0 0] }).get? Dl = none from hD] at this; cases this
theorem in_strs {l : Addr} {ps : List (Str × Tok)} {z : Str} {t : Tok} {Q : Value → Shared → Prop} (hl : s.heap.IsList l (strValues ps).toArray) (h : Q (.bool (decide (z ∈ ps.map (·.1)))) s) : wpAny (model prog w) A (compareOp .In (.str z t) (.ref l)) Q E s := by
  refine SeqInW.in_listW (fun y => match y with | .str a _ => a.cps.toList == z.cps.toList | _ => false) (fun y hy => ?_) hl ?_
  · have : y ∈ strValues ps := by simpa using hy
    obtain ⟨p, _, rfl⟩ := List.mem_map.mp this
    exact SeqRoads2.EqGives.str p.1 z p.2 t
  · have e : (strValues ps).toArray.any (fun y => match y with | .str a _ => a.cps.toList == z.cps.toList | _ => false) = decide (z ∈ ps.map (·.1)) := by
      rw [List.any_toArray, Bool.eq_iff_iff, List.any_eq_true, decide_eq_true_iff, List.mem_map]
      constructor
      · intro z1q
        obtain ⟨y, hy, h⟩ := z1q
        obtain ⟨p, hp, rfl⟩ := List.mem_map.mp hy
        refine ⟨p, hp, ?_⟩
        have : p.1.cps.toList = z.cps.toList := by simpa using h
        cases hp1 : p.1; cases z; rw [hp1] at this; simp at this; simp [this]
      · intro z2q
        obtain ⟨p, hp, rfl⟩ := z2q
        exact ⟨_, List.mem_map_of_mem hp, by simp⟩
    rw [e]; exact h
end
end SM26
section SM27
set_option maxHeartbeats 2000000
local macro_rules | `(tactic| walk_at "PAD0") => `(tactic| skip)
theorem slicePick_rev (items : Array Value) : slicePick items none none (some (-1)) = items.toList.reverse.toArray := by
  have e : sliceBounds none none (some (-1)) items.size = ((items.size : Int) - 1, -1, -1) := rfl
  unfold slicePick
  rw [e]
  congr 1
  have e2 : sliceRange ((items.size : Int) - 1) (-1) (-1) = (List.range items.size).map fun k => items.size - 1 - k := by
    unfold sliceRange
    simp only [show ¬ ((-1 : Int) > 0) by decide, if_false]
    by_cases h : (items.size : Int) - 1 > -1
    · rw [if_pos h]
      have e3 : ((items.size : Int) - 1 - -1 - -1 - 1) / (- -1) = (items.size : Nat) := by
        rw [show (- (-1 : Int)) = 1 by decide, Int.ediv_one]; omega
      rw [e3, Int.toNat_natCast]
      refine List.map_congr_left fun k hk => ?_
      have := List.mem_range.mp hk
      omega
    · rw [if_neg h]
      have : items.size = 0 := by omega
      rw [this]; rfl
  rw [e2, List.filterMap_map]
  refine List.ext_getElem? fun j => ?_
  have key : ∀ n, n ≤ items.size → (List.range n).filterMap ((fun i => items[i]?) ∘ fun k => items.size - 1 - k) = items.toList.reverse.take n := by
    intro n
    induction n with
    | zero => intro _; rfl
    | succ n ih =>
      intro hn
      rw [List.range_succ, List.filterMap_append, ih (by omega), List.take_succ_eq_append_getElem (by simp; omega)]
      congr 1
      have h1 : items.size - 1 - n < items.size := by omega
      simp [List.getElem_reverse, h1]
  rw [key _ (Nat.le_refl _), List.take_of_length_le (by simp)]
abbrev Ev (prog : Program) (w : World) (A : Around) (s : Shared) (e : Expr) (env : Env) (P : Value → Heap → Prop) : Prop :=
  ∀ (Q E : Value → Shared → Prop), (∀ v h' tk, (∀ b o, s.heap.get? b = some o → h'.get? b = some o) → P v h' → Q v { s with heap := h', toks := tk }) → wpAny (model prog w) A (eval e env) Q E s
abbrev Texts (ps : List Str) (v : Value) (h : Heap) : Prop := ∃ l ts, v = .ref l ∧ h.IsList l (strValues ts).toArray ∧ ts.map (·.1) = ps
section
variable {prog : Program} {w : World} {A : Around} {s : Shared} {env : Env}
theorem ev_minus {p1 p2 : Pos} {k : Nat} {Q : Value → Shared → Prop} {E : Value → Shared → Prop} (h : ∀ t tk, Q (.int (-1) t) { s with toks := tk }) : wpAny (model prog w) A (eval (.UnaryOp .USub (.Constant (.int 1) k p1) p2) env) Q E s :=
  wpAny_UnaryOp (wpAny_Constant_int (PyProof.Rows.neg_int (h _ _)))
theorem tail_slice {value lo' : Expr} {lower upper st : Option Expr} {p : Pos} {o i : Value} {T id : String} {Q : Value → Shared → Prop} {E : Value → Shared → Prop} (hl : typeLookup (.type T) "__getitem__" = pure (some (.builtin id))) (hT : s.TypeIs o T) (hg : wpAny (model prog w) A (getItem o i) Q E s) :
    wpAny (model prog w) A (subscriptTail value (.Slice lower upper st p) o i) Q E s := by
  refine PySem.W.kba_turn (value' := .Name (Str.ofString "_") ⟨0, 0, 0, 0⟩) (fun _ => rfl) ?_
  unfold subscriptTail
  have fin : ∀ vs, wpAny (model prog w) A (operate vs (getItem o i)) (fun r s₃ => wpAny (model prog w) A (letTemporaryGo (.Name (Str.ofString "_") ⟨0, 0, 0, 0⟩) o r >>= fun _ => pure r) Q E s₃) E s :=
    fun vs => wpAny_operating (wpAny_mono hg (fun r s₃ h₃ => wpAny_bind (wpAny_pure (wpAny_pure h₃))) fun _ _ x => x)
  refine wpAny_bind ?_
  rw [getitemInPython_of_ne hT.not_modules]
  refine wpAny_bind (wpAny_specialOf hT hl ?_)
  cases st <;> first
    | exact wpAny_pure (wpAny_bind (fin _))
    | exact wpAny_bind (wpAny_pure (wpAny_bind (fin _)))
    | exact wpAny_bind (fin _)
theorem ev_init {value : Expr} {ps : List Str} {p1 p2 p3 p4 : Pos} {k : Nat} (h : Ev prog w A s value env (Texts ps)) (hlen : ps.length ≤ 100000) :
    Ev prog w A s (.Subscript value (.Slice none (some (.UnaryOp .USub (.Constant (.int 1) k p1) p2)) none p3) p4) env (Texts ps.dropLast) := by
  intro Q E hQ
  refine Subscript_ (h _ _ fun v h' tk hk ⟨l, ts, e, hl, hts⟩ => wpAny_Slice ?_)
  subst e
  rw [evalPart_none, evalPart_some]
  refine wpAny_pure (ev_minus fun t tk' => wpAny_pure (tail_slice (T := "list") (lo' := value) list_getitem_lookup (hl.push _).typeIs ?_))
  refine wpAny_getItem_list_slice (lo := none) (hi := some (-1)) (st := none) (hl.push _) (Heap.IsSliceOf.new ..) .none (.int _ _) .none (by decide) ?_ ?_
  · refine hQ _ _ _ (fun b o e => Heap.get?_push_of_some _ (Heap.get?_push_of_some _ (hk b o e))) ⟨_, ts.dropLast, rfl, ⟨{ cls := .type "list", data := .seq (strValues ts.dropLast).toArray }, ?_, rfl, _, rfl⟩, by rw [List.map_dropLast, hts]⟩
    have e1 : slicePick (strValues ts).toArray none (some (-1)) none = (strValues ts.dropLast).toArray := (slicePick_butLast (strValues ts).toArray 1 (Nat.le_refl _)).trans (by simp [strValues, List.dropLast_eq_take, List.map_take])
    rw [e1]
    exact Heap.get?_push_size _ rfl
  · have := congrArg List.length hts
    simp at this
    simp [strValues, this]; unfold sizeLine; omega
theorem ev_rev {value : Expr} {ps : List Str} {p1 p2 p3 p4 : Pos} {k : Nat} (h : Ev prog w A s value env (Texts ps)) (hlen : ps.length ≤ 100000) :
    Ev prog w A s (.Subscript value (.Slice none none (some (.UnaryOp .USub (.Constant (.int 1) k p1) p2)) p3) p4) env (Texts ps.reverse) := by
  intro Q E hQ
  refine Subscript_ (h _ _ fun v h' tk hk ⟨l, ts, e, hl, hts⟩ => wpAny_Slice ?_)
  subst e
  rw [evalPart_none, evalPart_some]
  refine wpAny_pure (wpAny_pure (ev_minus fun t tk' => tail_slice (T := "list") (lo' := value) list_getitem_lookup (hl.push _).typeIs ?_))
  refine wpAny_getItem_list_slice (lo := none) (hi := none) (st := some (-1)) (hl.push _) (Heap.IsSliceOf.new ..) .none .none (.int _ _) (by decide) ?_ ?_
  · refine hQ _ _ _ (fun b o e => Heap.get?_push_of_some _ (Heap.get?_push_of_some _ (hk b o e))) ⟨_, ts.reverse, rfl, ⟨{ cls := .type "list", data := .seq (strValues ts.reverse).toArray }, ?_, rfl, _, rfl⟩, by rw [List.map_reverse, hts]⟩
    rw [slicePick_rev]
    have e2 : (strValues ts).toArray.toList.reverse = strValues ts.reverse := by simp [strValues]
    rw [e2]
    exact Heap.get?_push_size _ rfl
  · have := congrArg List.length hts
    simp at this
    simp [strValues, this]; unfold sizeLine; omega
theorem ev_sub {dv : Expr} {kx : String} {p1 p3 : Pos} {C l : Addr} {f : Str → Option Value} {z : Str} {t : Tok} {v : Value} (h1 : ∀ (Q E : Value → Shared → Prop), Q (.ref C) s → wpAny (model prog w) A (eval dv env) Q E s) (h2 : ∀ (Q E : Value → Shared → Prop), Q (.str z t) s → wpAny (model prog w) A (eval (nm kx p1) env) Q E s)
    (hm : s.heap.MapOf (PySem.strKind prog w) C f) (hv : f z = some v) (ht : ∀ o r, letTemporaryGo dv o r = pure () := by intro _ _; rfl) : Ev prog w A s (.Subscript dv (nm kx p1) p3) env (fun r h' => r = v ∧ h' = s.heap) := by
  intro Q E hQ
  refine wpAny_Subscript_Name_late (h1 _ _ (h2 _ _ ?_)) ht
  exact ⟨"dict", _, slot_dict_getitem.lookup, hm.typeIs, wpAny_getItem_of (knd := PySem.strKind prog w) (k := z) (by simp [PySem.strKind, Value.isStrOf]) hm hv (hQ v s.heap _ (fun _ _ e => e) ⟨rfl, rfl⟩)⟩
end
end SM27
section SM28
set_option maxHeartbeats 2000000
local macro_rules | `(tactic| walk_at "PAD0") => `(tactic| skip)
section
variable {prog : Program} {w : World} {A : Around} {s : Shared} {cenv : Env}
theorem test_in {x key : String} {p1 p2 p3 p4 p5 : Pos} {whole : Sem Value} {kc kk C l : Addr} {fc : Str → Option Value} {ky z : Str} {tk t : Tok} {bs : List (Str × Tok)} {m : Str → Option Value} {E : Value → Shared → Prop} {Q : Bool → Shared → Prop}
    (hk : cenv.scope.kind = .function) (hc : cenv.kindOf (Str.ofString "chains") = some .cell) (hcc : cenv.cells.lookup (Str.ofString "chains") = some kc) (hg : cenv.kindOf (Str.ofString key) = some .cell) (hgc : cenv.cells.lookup (Str.ofString key) = some kk) (hx : cenv.kindOf (Str.ofString x) = some .local)
    (hgd : (Str.ofString key == ("__debug__" : Str)) = false) (hxd : (Str.ofString x == ("__debug__" : Str)) = false)
    (vc : s.heap.IsCell kc (some (.ref C))) (vk : s.heap.IsCell kk (some (.str ky tk))) (hm : s.heap.MapOf (PySem.strKind prog w) C fc) (hf : fc ky = some (.ref l)) (hl : s.heap.IsList l (strValues bs).toArray) (hn : s.heap.Ns cenv.locals m) (hv : m (Str.ofString x) = some (.str z t))
    (hQ : ∀ tk, Q (decide (z ∈ bs.map (·.1))) { s with toks := tk }) :
    wpAny (model prog w) A (isTrue (.Compare (nm x p1) [.In] [.Subscript (nm "chains" p2) (nm key p3) p4] p5) cenv whole) Q E s := by
  refine wpAny_isTrue_Compare1 (name_ok hk hx hn hv ?_ hxd)
  refine ev_sub (C := C) (l := l) (z := ky) (t := tk) (v := .ref l) (fun Q E h => name_cell hk hc hcc vc h) (fun Q E h => name_cell hk hg hgc vk h hgd) hm hf (fun _ _ => rfl) _ _ fun v h' tk' _ ⟨e1, e2⟩ => ?_
  subst e1; subst e2
  exact in_strs hl (wpAny_truthy_bool (hQ tk'))
theorem elt_up {p1 p2 p3 p4 p5 p6 p7 p8 p9 p10 : Pos} {kk' : Nat} {key : String} {kc kk km C l : Addr} {fc : Str → Option Value} {ky z mk : Str} {tk t tm : Tok} {bs : List (Str × Tok)} {m : Str → Option Value} {E : Value → Shared → Prop} {Q : Value → Shared → Prop}
    (hk : cenv.scope.kind = .function) (hc : cenv.kindOf (Str.ofString "chains") = some .cell) (hcc : cenv.cells.lookup (Str.ofString "chains") = some kc) (hg : cenv.kindOf (Str.ofString key) = some .cell) (hgc : cenv.cells.lookup (Str.ofString key) = some kk) (hx : cenv.kindOf (Str.ofString "name") = some .local)
    (hm' : cenv.kindOf (Str.ofString "mark") = some .cell) (hmc : cenv.cells.lookup (Str.ofString "mark") = some km) (hgd : (Str.ofString key == ("__debug__" : Str)) = false)
    (vc : s.heap.IsCell kc (some (.ref C))) (vk : s.heap.IsCell kk (some (.str ky tk))) (vm : s.heap.IsCell km (some (.str mk tm))) (hm : s.heap.MapOf (PySem.strKind prog w) C fc) (hf : fc ky = some (.ref l)) (hl : s.heap.IsList l (strValues bs).toArray) (hn : s.heap.Ns cenv.locals m) (hv : m (Str.ofString "name") = some (.str z t))
    (hsz : z.length + mk.length ≤ 100000) (hQ : ∀ k tk, Q (.str (if z ∈ bs.map (·.1) then Str.ofString " " else z ++ mk) k) { s with toks := tk }) :
    wpAny (model prog w) A (eval (.IfExp (.Compare (nm "name" p1) [.In] [.Subscript (nm "chains" p2) (nm key p3) p4] p5) (.Constant (.str (Str.ofString " ")) kk' p6) (.BinOp (nm "name" p7) .Add (nm "mark" p8) p9) p10) cenv) Q E s := by
  refine wpAny_IfExp (test_in hk hc hcc hg hgc hx hgd (by decide) vc vk hm hf hl hn hv fun tk' => ?_)
  by_cases h : z ∈ bs.map (·.1)
  · rw [decide_eq_true h]
    simp only [if_true]
    rw [if_pos h] at hQ
    exact wpAny_Constant_str (hQ _ _)
  · rw [decide_eq_false h]
    simp only [Bool.false_eq_true, if_false]
    rw [if_neg h] at hQ
    exact wpAny_BinOp (name_ok (s := { s with toks := tk' }) hk hx hn hv (name_cell hk hm' hmc vm (PyProof.Rows.add_str (fun t' k => hQ t' k) (by unfold sizeLine; omega))))
theorem elt_down {p1 p2 p3 p4 p5 p6 p7 p8 p9 p10 p11 p12 : Pos} {kk' : Nat} {key : String} {kc kk km C l : Addr} {fc : Str → Option Value} {ky z mk : Str} {tk t tm : Tok} {bs : List (Str × Tok)} {m : Str → Option Value} {E : Value → Shared → Prop} {Q : Value → Shared → Prop}
    (hk : cenv.scope.kind = .function) (hc : cenv.kindOf (Str.ofString "chains") = some .cell) (hcc : cenv.cells.lookup (Str.ofString "chains") = some kc) (hg : cenv.kindOf (Str.ofString key) = some .cell) (hgc : cenv.cells.lookup (Str.ofString key) = some kk) (hx : cenv.kindOf (Str.ofString "name") = some .local)
    (hm' : cenv.kindOf (Str.ofString "mark") = some .cell) (hmc : cenv.cells.lookup (Str.ofString "mark") = some km) (hgd : (Str.ofString key == ("__debug__" : Str)) = false)
    (vc : s.heap.IsCell kc (some (.ref C))) (vk : s.heap.IsCell kk (some (.str ky tk))) (vm : s.heap.IsCell km (some (.str mk tm))) (hm : s.heap.MapOf (PySem.strKind prog w) C fc) (hf : fc ky = some (.ref l)) (hl : s.heap.IsList l (strValues bs).toArray) (hn : s.heap.Ns cenv.locals m) (hv : m (Str.ofString "name") = some (.str z t))
    (hline : (p11.endLine == p12.line) = true) (hbase : attributeBase (nm "name" p7) (Str.ofString "upper") cenv (eval (nm "name" p7) cenv) = eval (nm "name" p7) cenv) (hsz : z.length ≤ 10000) (hsm : mk.length ≤ 10000) (hQ : ∀ k tk, Q (.str (if z ∈ bs.map (·.1) then Str.ofString " " else Txt.upper z ++ mk) k) { s with toks := tk }) :
    wpAny (model prog w) A (eval (.IfExp (.Compare (nm "name" p1) [.In] [.Subscript (nm "chains" p2) (nm key p3) p4] p5) (.Constant (.str (Str.ofString " ")) kk' p6) (.BinOp (.Call (.Attribute (nm "name" p7) (Str.ofString "upper") p11) [] [] p12) .Add (nm "mark" p8) p9) p10) cenv) Q E s := by
  refine wpAny_IfExp (test_in hk hc hcc hg hgc hx hgd (by decide) vc vk hm hf hl hn hv fun tk' => ?_)
  by_cases h : z ∈ bs.map (·.1)
  · rw [decide_eq_true h]
    simp only [if_true]
    rw [if_pos h] at hQ
    exact wpAny_Constant_str (hQ _ _)
  · rw [decide_eq_false h]
    simp only [Bool.false_eq_true, if_false]
    rw [if_neg h] at hQ
    refine wpAny_BinOp (Call_method0 hbase hline (name_ok (s := { s with toks := tk' }) hk hx hn hv (SBL.upper (by omega) fun hle => ?_)))
    exact name_cell hk hm' hmc vm (PyProof.Rows.add_str (fun t' k => hQ t' k) (by unfold sizeLine; omega))
end
end SM28
section SM29
set_option maxHeartbeats 2000000
local macro_rules | `(tactic| walk_at "eval ListComp") => `(tactic| walk_at "STOP")
local macro_rules | `(tactic| walk_at "call ref") => `(tactic| walk_at "STOP")
def wayScope : Scope := { kind := .function, names := [(Str.ofString "chains", .cell), (Str.ofString "start", .cell), (Str.ofString "goal", .cell), (Str.ofString "mark", .cell), (Str.ofString "shared", .local), (Str.ofString "up", .local), (Str.ofString "down", .local), (Str.ofString "len", .globalImplicit), (Str.ofString "_strip_padding", .globalImplicit), (Str.ofString "capwords", .globalImplicit)], isGenerator := false, isCoroutine := false, more := [(Str.ofString "fast", .str (Str.ofString "chains")), (Str.ofString "fast", .str (Str.ofString "start")), (Str.ofString "fast", .str (Str.ofString "goal")), (Str.ofString "fast", .str (Str.ofString "mark")), (Str.ofString "fast", .str (Str.ofString "name")), (Str.ofString "fast", .str (Str.ofString "shared")), (Str.ofString "fast", .str (Str.ofString "up")), (Str.ofString "fast", .str (Str.ofString "down"))] }
theorem cell_keep {h h' : Heap} {c : Addr} {v : Option Value} (x : h.IsCell c v) (hk : ∀ b o, h.get? b = some o → h'.get? b = some o) : h'.IsCell c v := let ⟨o, e, r⟩ := x; ⟨o, hk _ _ e, r⟩
theorem CtrK.useC {w : World} {D U : Nat} {f : Value} {vs : List Value} {kw : List (Str × Value)} {news : Led} {Out : Value → Led → Prop} (Ct : CtrK w D U f vs kw news Out)
    {mean : ExcName → Option Value} {mg mb : Str → Option Value} {dp un : Nat} {gd : Option (List Code)} {cn n : Str} {cs sc : Scope} {L L' a a' : Addr} {ccd cd : Value} {cl : List (Str × Addr)} {outer : List Env} {A₀ : Around} {base h₀ : Heap} {m : Str → Option Value} {s : Shared} {Q E : Value → Shared → Prop}
    (hD : dp + 1 ≤ D) (hU : un + 3 ≤ U) (B : Below A₀ base (envX cn cs L a ccd cl :: outer) h₀) (F : Fr h₀ L' s.heap m) (X : (hd.heap_1 w.params).In h₀) (N : News h₀ L' s.heap news) (T : Top topProg looseG mean mg mb h₀) (hk : sc.kind = .function)
    (h : ∀ (v : Value) (news' : Led) (h' : Heap) (tk' : Nat), Out v news' → Fr h₀ L' h' m → News h₀ L' h' news' → Q v { s with heap := h', toks := tk' }) :
    wpAny (model PySem.Challenge.pw_wv0033_01 w) ((ktrTop dp un gd cn cs L a ccd cl outer).deeper (envOfC n sc L' a' cd)) (call f vs kw) Q E s :=
  Ct.use (dp := dp + 1) (un := un + 3) (gd := gd) (cn := n) (cs := sc) (a := a') (ccd := cd) (cl := (envOfC n sc L' a' cd).cells) (outer := envX cn cs L a ccd cl :: outer) (L := L') hD hU B F X N T hk h
def upL (as bs : List Str) (mk : Str) : List Str := as.dropLast.map fun z => if z ∈ bs then Str.ofString " " else z ++ mk
def downL (as bs : List Str) (mk : Str) : List Str := bs.dropLast.reverse.map fun z => if z ∈ as then Str.ofString " " else Txt.upper z ++ mk
def sharedN (as bs : List Str) : Nat := (as.dropLast.filter fun z => decide (z ∈ bs)).length
def upT (as bs : List Str) (mk : Str) : Str := Str.ofString " " ++ Txt.join (Str.ofString "") (upL as bs mk)
def downT (as bs : List Str) (mk : Str) : Str := Str.ofString " " ++ Txt.join (Str.ofString "") (downL as bs mk)
def downS (as bs : List Str) (mk : Str) : Str := Txt.slice (stripZ (sharedN as bs) (downT as bs mk)) (some 1) none
def wayZ (as bs : List Str) (mk : Str) : Str := stripZ (sharedN as bs + 1) (upT as bs mk) ++ capZ (downS as bs mk) mk
def wayFit (as bs : List Str) (mk : Str) : Bool :=
  JoinOk (Str.ofString "") (upL as bs mk) && JoinOk (Str.ofString "") (downL as bs mk) && decide ((upT as bs mk).length < 1000) && decide ((downT as bs mk).length < 1000) &&
  decide (lead (sharedN as bs + 1) (upT as bs mk).cps.toList = sharedN as bs + 1 ∨ lead (sharedN as bs + 1) (upT as bs mk).cps.toList < (upT as bs mk).cps.toList.length) &&
  decide (lead (sharedN as bs) (downT as bs mk).cps.toList = sharedN as bs ∨ lead (sharedN as bs) (downT as bs mk).cps.toList < (downT as bs mk).cps.toList.length) &&
  decide ((capZ (downS as bs mk) mk).length ≤ 100000) && capFit (downS as bs mk) mk
theorem way_ok (w : World) {C ls lg : Addr} {fc : Str → Option Value} {st gl mk : Str} {t1 t2 t3 : Tok} {as bs : List (Str × Tok)} {news : Led} (hC : Sure news fun h => h.MapOf (PySem.strKind Challenge.pw_wv0033_01 w) C fc) (h1 : fc st = some (.ref ls)) (h2 : fc gl = some (.ref lg))
    (hs : Sure news fun h => h.IsList ls (strValues as).toArray) (hg : Sure news fun h => h.IsList lg (strValues bs).toArray) (ha : as.length ≤ 100) (hb : bs.length ≤ 100) (hmk : mk.length ≤ 100) (hmk0 : (mk.length == 0) = false) (hall : ∀ z ∈ as.map (·.1) ++ bs.map (·.1), z.length ≤ 100) (hfit : wayFit (as.map (·.1)) (bs.map (·.1)) mk = true) :
    Ctr w 320 250 (.ref 268) [.ref C, .str st t1, .str gl t2, .str mk t3] news (fun v news' => (∃ k, v = .str (wayZ (as.map (·.1)) (bs.map (·.1)) mk) k) ∧ news' = news) := by
  revert w C ls lg fc st gl mk t1 t2 t3 as bs news
  intro PK w C ls lg fc st gl mk t1 t2 t3 as bs news
  intro hC h1 h2 hs hg ha hb hmk hmk0 hall hfit
  intro mean mg mb gd cn cs a ccd cl outer A₀ base h₀ L m s Q E B₀ F₀ X₀ N₀ T₀ hk₀ hret
  walk_at "MINE enter"
  rename_i g' L' hh tk₁ FG F' B X T l1 o1 o2 o3 o4 d1 d2 d3 d4 N
  have e1 : o1.data = .cell (some (.str mk t3)) := d1.trans (by kernel_rfl)
  have e2 : o2.data = .cell (some (.str gl t2)) := d2.trans (by kernel_rfl)
  have e3 : o3.data = .cell (some (.str st t1)) := d3.trans (by kernel_rfl)
  have e4 : o4.data = .cell (some (.ref C)) := d4.trans (by kernel_rfl)
  clear d1 d2 d3 d4
  have facts : ∀ h : Heap, Has h ((L' + 1 + 1 + 1 + 1, o1) :: (L' + 1 + 1 + 1, o2) :: (L' + 1 + 1, o3) :: (L' + 1, o4) :: news) → h.IsCell (L' + 1 + 1 + 1 + 1) (some (.str mk t3)) ∧ h.IsCell (L' + 1 + 1 + 1) (some (.str gl t2)) ∧ h.IsCell (L' + 1 + 1) (some (.str st t1)) ∧ h.IsCell (L' + 1) (some (.ref C)) ∧
      h.MapOf (PySem.strKind Challenge.pw_wv0033_01 w) C fc ∧ h.IsList ls (strValues as).toArray ∧ h.IsList lg (strValues bs).toArray := fun h H =>
    have Hn : Has h news := fun p hp => H p (List.mem_cons_of_mem _ (List.mem_cons_of_mem _ (List.mem_cons_of_mem _ (List.mem_cons_of_mem _ hp))))
    ⟨⟨o1, H (_, o1) (List.mem_cons_self ..), e1⟩, ⟨o2, H (_, o2) (List.mem_cons_of_mem _ (List.mem_cons_self ..)), e2⟩, ⟨o3, H (_, o3) (List.mem_cons_of_mem _ (List.mem_cons_of_mem _ (List.mem_cons_self ..))), e3⟩,
      ⟨o4, H (_, o4) (List.mem_cons_of_mem _ (List.mem_cons_of_mem _ (List.mem_cons_of_mem _ (List.mem_cons_self ..)))), e4⟩, hC _ Hn, hs _ Hn, hg _ Hn⟩
  have evS : ∀ {A : Around} {s' : Shared} {p1 p2 p3 : Pos}, Has s'.heap ((L' + 1 + 1 + 1 + 1, o1) :: (L' + 1 + 1 + 1, o2) :: (L' + 1 + 1, o3) :: (L' + 1, o4) :: news) → Ev Challenge.pw_wv0033_01 w A s' (.Subscript (nm "chains" p1) (nm "start" p2) p3) (envOfC (Str.ofString "_law_way") wayScope L' 268 (Value.ref 267)) (Texts (as.map (·.1))) := by
    intro A s' p1 p2 p3 H Q E hQ
    obtain ⟨c1, c2, c3, c4, mC, mS, mG⟩ := facts _ H
    refine ev_sub (C := C) (l := ls) (z := st) (t := t1) (v := .ref ls) (fun Q E h => name_cell rfl rfl rfl c4 h) (fun Q E h => name_cell rfl rfl rfl c3 h) mC h1 (fun _ _ => rfl) _ _ fun v h' tk' hk' e => ?_
    obtain ⟨rfl, rfl⟩ := e
    exact hQ _ _ _ hk' ⟨ls, as, rfl, mS, rfl⟩
  have evG : ∀ {A : Around} {s' : Shared} {p1 p2 p3 : Pos}, Has s'.heap ((L' + 1 + 1 + 1 + 1, o1) :: (L' + 1 + 1 + 1, o2) :: (L' + 1 + 1, o3) :: (L' + 1, o4) :: news) → Ev Challenge.pw_wv0033_01 w A s' (.Subscript (nm "chains" p1) (nm "goal" p2) p3) (envOfC (Str.ofString "_law_way") wayScope L' 268 (Value.ref 267)) (Texts (bs.map (·.1))) := by
    intro A s' p1 p2 p3 H Q E hQ
    obtain ⟨c1, c2, c3, c4, mC, mS, mG⟩ := facts _ H
    refine ev_sub (C := C) (l := lg) (z := gl) (t := t2) (v := .ref lg) (fun Q E h => name_cell rfl rfl rfl c4 h) (fun Q E h => name_cell rfl rfl rfl c2 h) mC h2 (fun _ _ => rfl) _ _ fun v h' tk' hk' e => ?_
    obtain ⟨rfl, rfl⟩ := e
    exact hQ _ _ _ hk' ⟨lg, bs, rfl, mG, rfl⟩
  k_steps
  refine Stop.mk ?_
  have H := has_of N
  obtain ⟨c1, c2, c3, c4, mC, mS, mG⟩ := facts _ H
  refine comp1 (xs := (as.map (·.1)).dropLast) (fun z => decide (z ∈ bs.map (·.1))) id rfl (by decide) rfl (by decide) rfl rfl (by simp; omega) (fun Q E h => ev_init (evS H) (by simp; omega) Q E fun v h' tk' hk' ⟨l, ts, e, hl, ht⟩ => e ▸ h l h' tk' ts hk' hl ht)
    (fun Cc z t s₃ m₃ E' hz hn hv hk => wpAny_tests_one (test_in rfl rfl rfl rfl rfl rfl (by decide) (by decide) (cell_keep c4 hk) (cell_keep c2 hk) (map_at mC fun o e => hk _ o e) h2 (mG.at fun o e => hk _ o e) hn hv fun tk => ⟨rfl, s₃.heap, tk, rfl, fun _ _ e => e⟩))
    (fun Cc z t s₃ m₃ E' hz hp hn hv hk => name_ok rfl rfl hn hv ⟨⟨_, rfl⟩, s₃.heap, s₃.toks, rfl, fun _ _ e => e⟩) ?_
  clear c1 c2 c3 c4 mC mS mG H
  intro Dl ha1 tka ts1 fD1 ka ⟨na, hpa⟩ ht1
  have Na := news_add F' N ka fD1 hpa
  have Fa := F'.kept ka
  clear F' N
  have hn1 : ts1.length = sharedN (as.map (·.1)) (bs.map (·.1)) := by
    have := congrArg List.length ht1
    simpa [sharedN] using this
  have hs100 : sharedN (as.map (·.1)) (bs.map (·.1)) ≤ 100 := by
    have h5 : sharedN (as.map (·.1)) (bs.map (·.1)) ≤ (as.map (·.1)).dropLast.length := List.length_filter_le _ _
    simp at h5
    omega
  have esz : ((strValues ts1).toArray.size : Int) = (sharedN (as.map (·.1)) (bs.map (·.1)) : Int) := by rw [← hn1]; simp [strValues]
  k_steps
  refine Stop.mk ?_
  rename_i hb1 Fb Nb
  have Hb : Has hb1 ((L' + 1 + 1 + 1 + 1, o1) :: (L' + 1 + 1 + 1, o2) :: (L' + 1 + 1, o3) :: (L' + 1, o4) :: news) := fun p hp => (Nb p (List.mem_cons_of_mem _ hp)).1
  obtain ⟨c1, c2, c3, c4, mC, mS, mG⟩ := facts _ Hb
  refine comp1 (xs := (as.map (·.1)).dropLast) (fun _ => true) (fun z => if z ∈ bs.map (·.1) then Str.ofString " " else z ++ mk) rfl (by decide) rfl (by decide) rfl rfl (by simp; omega) (fun Q E h => ev_init (evS Hb) (by simp; omega) Q E fun v h' tk' hk' ⟨l, ts, e, hl, ht⟩ => e ▸ h l h' tk' ts hk' hl ht)
    (fun Cc z t s₃ m₃ E' hz hn hv hk => wpAny_tests_nil ⟨rfl, s₃.heap, s₃.toks, rfl, fun _ _ e => e⟩)
    (fun Cc z t s₃ m₃ E' hz hp hn hv hk => elt_up rfl rfl rfl rfl rfl rfl rfl rfl (by decide) (cell_keep c4 hk) (cell_keep c2 hk) (cell_keep c1 hk) (map_at mC fun o e => hk _ o e) h2 (mG.at fun o e => hk _ o e) hn hv (by have := hall z (List.mem_append_left _ (List.dropLast_subset _ hz)); omega) fun k tk => ⟨⟨k, rfl⟩, s₃.heap, tk, rfl, fun _ _ e => e⟩) ?_
  clear c1 c2 c3 c4 mC mS mG Hb
  intro D2 ha2 tka2 ts2 fD2 ka2 ⟨na2, hpa2⟩ ht2
  have Na2 := news_add Fb Nb ka2 fD2 hpa2
  have Fa2 := Fb.kept ka2
  clear Fb Nb
  have ht2' : ts2.map (·.1) = upL (as.map (·.1)) (bs.map (·.1)) mk := by rw [ht2, List.filter_eq_self.mpr (fun _ _ => rfl)]; rfl
  clear ht2
  k_steps
  have hft : JoinOk (Str.ofString "") (upL (as.map (·.1)) (bs.map (·.1)) mk) = true ∧ JoinOk (Str.ofString "") (downL (as.map (·.1)) (bs.map (·.1)) mk) = true ∧ (upT (as.map (·.1)) (bs.map (·.1)) mk).length < 1000 ∧ (downT (as.map (·.1)) (bs.map (·.1)) mk).length < 1000 ∧
      (lead (sharedN (as.map (·.1)) (bs.map (·.1)) + 1) (upT (as.map (·.1)) (bs.map (·.1)) mk).cps.toList = sharedN (as.map (·.1)) (bs.map (·.1)) + 1 ∨ lead (sharedN (as.map (·.1)) (bs.map (·.1)) + 1) (upT (as.map (·.1)) (bs.map (·.1)) mk).cps.toList < (upT (as.map (·.1)) (bs.map (·.1)) mk).cps.toList.length) ∧
      (lead (sharedN (as.map (·.1)) (bs.map (·.1))) (downT (as.map (·.1)) (bs.map (·.1)) mk).cps.toList = sharedN (as.map (·.1)) (bs.map (·.1)) ∨ lead (sharedN (as.map (·.1)) (bs.map (·.1))) (downT (as.map (·.1)) (bs.map (·.1)) mk).cps.toList < (downT (as.map (·.1)) (bs.map (·.1)) mk).cps.toList.length) ∧
      (capZ (downS (as.map (·.1)) (bs.map (·.1)) mk) mk).length ≤ 100000 ∧ capFit (downS (as.map (·.1)) (bs.map (·.1)) mk) mk = true := by
    unfold wayFit at hfit
    simp only [Bool.and_eq_true, decide_eq_true_eq] at hfit
    obtain ⟨⟨⟨⟨⟨⟨⟨q1, q2⟩, q3⟩, q4⟩, q5⟩, q6⟩, q7⟩, q8⟩ := hfit
    exact ⟨q1, q2, q3, q4, q5, q6, q7, q8⟩
  obtain ⟨f1, f2, f3, f4, f5, f6, f7, f8⟩ := hft
  have g1 : (Txt.join (Str.ofString "") (upL (as.map (·.1)) (bs.map (·.1)) mk)).length < 1000 := by
    unfold upT at f3; rw [Str.length_append] at f3; omega
  have g2 : (Txt.join (Str.ofString "") (downL (as.map (·.1)) (bs.map (·.1)) mk)).length < 1000 := by
    unfold downT at f4; rw [Str.length_append] at f4; omega
  have l1b : (Str.ofString " ").length = 1 := by decide
  refine SC.join (texts := upL (as.map (·.1)) (bs.map (·.1)) mk) ?_ ht2' f1 fun tj kj => ?_
  · exact Heap.PlainList.isList (h := ha2) ⟨na2, hpa2⟩
  k_steps
  refine Stop.mk ?_
  rename_i hb3 Fb Nb
  have Hb : Has hb3 ((L' + 1 + 1 + 1 + 1, o1) :: (L' + 1 + 1 + 1, o2) :: (L' + 1 + 1, o3) :: (L' + 1, o4) :: news) := fun p hp => (Nb p (List.mem_cons_of_mem _ (List.mem_cons_of_mem _ hp))).1
  obtain ⟨c1, c2, c3, c4, mC, mS, mG⟩ := facts _ Hb
  refine comp1 (xs := (bs.map (·.1)).dropLast.reverse) (fun _ => true) (fun z => if z ∈ as.map (·.1) then Str.ofString " " else Txt.upper z ++ mk) rfl (by decide) rfl (by decide) rfl rfl (by simp; omega) (fun Q E h => ev_rev (ev_init (evG Hb) (by simp; omega)) (by simp; omega) Q E fun v h' tk' hk' ⟨l, ts, e, hl, ht⟩ => e ▸ h l h' tk' ts hk' hl ht)
    (fun Cc z t s₃ m₃ E' hz hn hv hk => wpAny_tests_nil ⟨rfl, s₃.heap, s₃.toks, rfl, fun _ _ e => e⟩)
    (fun Cc z t s₃ m₃ E' hz hp hn hv hk => elt_down rfl rfl rfl rfl rfl rfl rfl rfl (by decide) (cell_keep c4 hk) (cell_keep c3 hk) (cell_keep c1 hk) (map_at mC fun o e => hk _ o e) h1 (mS.at fun o e => hk _ o e) hn hv rfl rfl (by have := hall z (List.mem_append_right _ (List.dropLast_subset _ (List.mem_reverse.mp hz))); omega) (by omega) fun k tk => ⟨⟨k, rfl⟩, s₃.heap, tk, rfl, fun _ _ e => e⟩) ?_
  clear c1 c2 c3 c4 mC mS mG Hb
  intro D3 ha3 tka3 ts3 fD3 ka3 ⟨na3, hpa3⟩ ht3
  have Na3 := news_add Fb Nb ka3 fD3 hpa3
  have Fa3 := Fb.kept ka3
  clear Fb Nb
  have ht3' : ts3.map (·.1) = downL (as.map (·.1)) (bs.map (·.1)) mk := by rw [ht3, List.filter_eq_self.mpr (fun _ _ => rfl)]; rfl
  clear ht3
  k_steps
  refine SC.join (texts := downL (as.map (·.1)) (bs.map (·.1)) mk) ?_ ht3' f2 fun tj3 kj3 => ?_
  · exact Heap.PlainList.isList (h := ha3) ⟨na3, hpa3⟩
  k_steps
  rotate_right 1
  refine Stop.mk ?_
  have e9 : ((ts1.length : Int) + 1) = ((sharedN (as.map (·.1)) (bs.map (·.1)) + 1 : Nat) : Int) := by rw [← hn1]; rfl
  rw [e9]
  rw [show Str.ofString " " ++ Txt.join (Str.ofString "") (upL (as.map (·.1)) (bs.map (·.1)) mk) = upT (as.map (·.1)) (bs.map (·.1)) mk from rfl]
  rename News g' L' _ _ => N5
  rename Fr g' L' _ _ => F5
  generalize hU9 : upT (as.map (·.1)) (bs.map (·.1)) mk = xU at f3 f5 ⊢
  generalize hN9 : sharedN (as.map (·.1)) (bs.map (·.1)) = xN at f5 f6 f7 hs100 hn1 ⊢
  refine (strip_ok w xU ((xN + 1 : Nat) : Int) _ _ _ f3 (Int.natCast_nonneg _) (by omega) (by rw [Int.toNat_natCast]; exact f5)).useC (by decide) (by decide) B F5 X N5 T rfl fun v news' h5 tk5 hv F6 N6 => ?_
  obtain ⟨⟨k6, rfl⟩, rfl⟩ := hv
  rw [Int.toNat_natCast]
  clear F5 N5
  k_steps
  rotate_left 6
  refine Stop.mk ?_
  rw [hn1]
  rw [show Str.ofString " " ++ Txt.join (Str.ofString "") (downL (as.map (·.1)) (bs.map (·.1)) mk) = downT (as.map (·.1)) (bs.map (·.1)) mk from rfl]
  rename News g' L' _ _ => N7
  rename Fr g' L' _ _ => F7
  have hdS : downS (as.map (·.1)) (bs.map (·.1)) mk = Txt.slice (stripZ xN (downT (as.map (·.1)) (bs.map (·.1)) mk)) (some 1) none := by unfold downS; rw [hN9]
  rw [hdS] at f7 f8
  have hwz : wayZ (as.map (·.1)) (bs.map (·.1)) mk = stripZ (xN + 1) xU ++ capZ (Txt.slice (stripZ xN (downT (as.map (·.1)) (bs.map (·.1)) mk)) (some 1) none) mk := by unfold wayZ; rw [hdS, hN9, hU9]
  rw [hwz] at hret
  generalize hD9 : downT (as.map (·.1)) (bs.map (·.1)) mk = xD at f4 f6 f7 f8 hret ⊢
  refine (strip_ok w xD ((xN : Nat) : Int) _ _ _ f4 (Int.natCast_nonneg _) (by omega) (by rw [Int.toNat_natCast]; exact f6)).useC (by decide) (by decide) B F7 X N7 T rfl fun v news' h8 tk8 hv F8 N8 => ?_
  obtain ⟨⟨k9, rfl⟩, rfl⟩ := hv
  rw [Int.toNat_natCast]
  clear F7 N7
  have b1 : (stripZ xN xD).length ≤ xD.length := Txt.slice_le ..
  have b2 : (stripZ (xN + 1) xU).length ≤ xU.length := Txt.slice_le ..
  generalize hS1 : stripZ xN xD = yD at b1 f7 f8 hret ⊢
  generalize hS2 : stripZ (xN + 1) xU = yU at b2 hret ⊢
  have b3 : (Txt.slice yD (some 1) none).length ≤ yD.length := Txt.slice_le ..
  k_steps
  refine Stop.mk ?_
  rename News g' L' _ _ => N9
  rename Fr g' L' _ _ => F9
  generalize hS3 : Txt.slice yD (some 1) none = zD at b3 f7 f8 hret ⊢
  refine (cap_ok w (x := zD) (y := mk) (by omega) hmk0 (by omega) f8).useC (by decide) (by decide) B F9 X N9 T rfl fun v news' h10 tk10 hv F10 N10 => ?_
  obtain ⟨⟨k11, rfl⟩, rfl⟩ := hv
  clear F9 N9
  k_steps
  rename News h₀ L _ _ => N12
  rename Fr h₀ L _ _ => F12
  exact hret _ _ _ _ ⟨⟨_, rfl⟩, rfl⟩ F12 (N12.perm fun p hp => List.mem_cons_of_mem _ (List.mem_cons_of_mem _ (List.mem_cons_of_mem _ (List.mem_cons_of_mem _ (List.mem_cons_of_mem _ (List.mem_cons_of_mem _ (List.mem_cons_of_mem _ hp)))))))
  all_goals first | exact Str.ofString "_law_way" | exact (268 : Nat) | exact Value.none
end SM29
section SM32
set_option maxHeartbeats 1000000
theorem item_str {ns : List (Str × Tok)} {k : Nat} (hk : k < ns.length) : (strValues ns).toArray[k]? = some (.str (ns[k]'hk).1 (ns[k]'hk).2) := by simp [strValues, hk]
abbrev intsOf (ks : List (Nat × Tok)) : Array Value := (ks.map fun p => Value.int (p.1 : Int) p.2).toArray
theorem item_int {ks : List (Nat × Tok)} {k : Nat} (hk : k < ks.length) : (intsOf ks)[k]? = some (.int ((ks[k]'hk).1 : Int) (ks[k]'hk).2) := by simp [intsOf, hk]
def climb (ps : List Nat) : Nat → Nat → List Nat
  | 0, k => [k]
  | n + 1, k => if k = 0 then [0] else k :: climb ps n (ps.getD k 0)
theorem climb_zero (ps : List Nat) : ∀ n, climb ps n 0 = [0]
  | 0 => rfl
  | n + 1 => by simp [climb]
theorem climb_fuel {ps : List Nat} (hp : ∀ k, 0 < k → ps.getD k 0 < k) : ∀ n n' k, k ≤ n → k ≤ n' → climb ps n k = climb ps n' k
  | 0, n', k, h, _ => by obtain rfl : k = 0 := by omega
                         rw [climb_zero, climb_zero]
  | n + 1, 0, k, _, h => by obtain rfl : k = 0 := by omega
                            rw [climb_zero, climb_zero]
  | n + 1, n' + 1, k, h, h' => by
    unfold climb
    by_cases hk : k = 0
    · simp [hk]
    · have := hp k (by omega)
      rw [if_neg hk, if_neg hk, climb_fuel hp n n' _ (by omega) (by omega)]
theorem climb_step {ps : List Nat} (hp : ∀ k, 0 < k → ps.getD k 0 < k) {k : Nat} (hk : 0 < k) : climb ps k k = k :: climb ps (ps.getD k 0) (ps.getD k 0) := by
  cases k with
  | zero => omega
  | succ n =>
    have := hp (n + 1) hk
    rw [climb, if_neg (by omega), climb_fuel hp n _ _ (by omega) (Nat.le_refl _)]
def nameAt (ns : List (Str × Tok)) (k : Nat) : Str := (ns.map (·.1)).getD k ⟨#[]⟩
theorem nameAt_eq {ns : List (Str × Tok)} {k : Nat} (hk : k < ns.length) : nameAt ns k = (ns[k]'hk).1 := by simp [nameAt, hk]
theorem due_ok (w : World) {ln lp : Addr} {ns : List (Str × Tok)} {ks : List (Nat × Tok)} {k₀ : Nat} {t : Tok} {news : Led} (hk₀ : k₀ < 5) (h1 : Sure news fun h => h.IsList ln (strValues ns).toArray) (h2 : ns.length = 5) (h3 : Sure news fun h => h.IsList lp (intsOf ks)) (h4 : ks.length = 5) (hpar : ∀ k, 0 < k → (ks.map (·.1)).getD k 0 < k) :
    Ctr w 320 250 (.ref 263) [.ref ln, .ref lp, .int (k₀ : Int) t] news (fun v news' => ∃ a ts n, v = .ref a ∧ news' = (a, listObj ts n) :: news ∧ ts.map (·.1) = (climb (ks.map (·.1)) k₀ k₀).map (nameAt ns) ∧ ∀ p ∈ news, p.1 ≠ a) := by
  revert w ln lp ns ks k₀ t news
  intro PK w ln lp ns ks k₀ t news
  intro hk₀ h1 h2 h3 h4 hpar
  intro mean mg mb gd cn cs a ccd cl outer A₀ base h₀ L m s Q E B₀ F₀ X₀ N₀ T₀ hc₀ hret
  walk_at "MINE enter"
  rename_i g' L' h₁ FG F' N B X T
  replace F' : Fr g' L' h₁ (fun y => List.lookup y [(Str.ofString "k", .int (k₀ : Int) t), (Str.ofString "parents", .ref lp), (Str.ofString "names", .ref ln)]) := F'
  have e1 := h1 _ (has_of N)
  k_steps
  refine item_list (x := .str (ns[k₀]'(by omega)).1 (ns[k₀]'(by omega)).2) e1 (Int.natCast_nonneg _) (by omega) (by rw [Int.toNat_natCast]; exact item_str (by omega)) ?_
  k_steps
  refine Stop.mk ?_
  rename_i lu _ _ _ _ h8 F2 N2
  have hlu : ∀ p ∈ news, p.1 < lu := by assumption
  have push_eq : ∀ (ts : List (Str × Tok)) (x : Str) (t : Tok), (strValues ts).toArray.push (.str x t) = (strValues (ts ++ [(x, t)])).toArray := fun ts x t => by simp [strValues]
  refine While_cut (fun n m news₁ => ∃ k t ts c, n = k ∧ k < 5 ∧ news₁ = (lu, listObj ts c) :: news ∧ ts.map (·.1) ++ ((climb (ks.map (·.1)) k k).drop 1).map (nameAt ns) = (climb (ks.map (·.1)) k₀ k₀).map (nameAt ns) ∧ ts.length + k ≤ 5 ∧
      m (Str.ofString "names") = some (.ref ln) ∧ m (Str.ofString "parents") = some (.ref lp) ∧ m (Str.ofString "due") = some (.ref lu) ∧ m (Str.ofString "k") = some (.int (k : Int) t))
    (fun m news₁ => ∃ ts c, news₁ = (lu, listObj ts c) :: news ∧ ts.map (·.1) = (climb (ks.map (·.1)) k₀ k₀).map (nameAt ns) ∧ m (Str.ofString "due") = some (.ref lu)) F2 N2 (n₀ := k₀) ?_ ?_ ?_ ?_
  · refine ⟨k₀, _, [((ns[k₀]'(by omega)).1, (ns[k₀]'(by omega)).2)], 0, rfl, hk₀, rfl, ?_, by simp; omega, rfl, rfl, rfl, rfl⟩
    by_cases hz : k₀ = 0
    · subst hz; rw [climb_zero]; simp [nameAt_eq (ns := ns) (k := 0) (by omega)]
    · rw [climb_step hpar (by omega)]; simp [nameAt_eq (ns := ns) (k := k₀) (by omega)]
  · intro n m₁ news₁ h₃ tk₃ F₃ N₃ z1q
    obtain ⟨k, t, ts, c, rfl, hk5, rfl, hts, htl, m1, m2, m3, m4⟩ := z1q
    have e1 := h1 _ (has_of N₃ |> fun H p hp => H p (List.mem_cons_of_mem _ hp))
    have e3 := h3 _ (has_of N₃ |> fun H p hp => H p (List.mem_cons_of_mem _ hp))
    by_cases hz : n = 0
    · subst hz
      k_steps
      exact ⟨_, _, _, _, rfl, F₃, N₃, ts, c, rfl, by rw [climb_zero] at hts; simpa using hts, m3⟩
    · have hpos : 0 < (n : Int) := by omega
      have hq := hpar n (by omega)
      have hgd : ((ks.map (·.1)).getD n 0) = (ks[n]'(by omega)).1 := by simp [show n < ks.length by omega]
      rw [hgd] at hq
      have hfit : (strValues ts).toArray.size ≤ 100 := by simp [strValues]; omega
      k_steps
      refine item_list e3 (Int.natCast_nonneg _) (by omega) (by rw [Int.toNat_natCast]; exact item_int (by omega)) ?_
      generalize hQ9 : (ks[n]'(by omega)).1 = q at hq hgd
      generalize hQ8 : (ks[n]'(by omega)).2 = tq
      k_steps
      have e1' := h1 _ (has_of (by assumption) |> fun H p hp => H p (List.mem_cons_of_mem _ hp))
      refine item_list (x := .str (ns[q]'(by omega)).1 (ns[q]'(by omega)).2) e1' (Int.natCast_nonneg _) (by omega) (by rw [Int.toNat_natCast]; exact item_str (by omega)) ?_
      k_steps
      rename_i h9 F9 N9
      rw [push_eq] at N9
      refine ⟨.inl rfl, _, _, _, _, q, rfl, F9, N9, hq, q, tq, _, _, rfl, by omega, rfl, ?_, by simp; omega, m1, m2, m3, rfl⟩
      rw [← hts, climb_step hpar (by omega : 0 < n), hgd, List.map_append, List.append_assoc]
      congr 1
      by_cases hq0 : q = 0
      · subst hq0; rw [climb_zero]; simp [nameAt_eq (ns := ns) (k := 0) (by omega)]
      · rw [climb_step hpar (by omega : 0 < q)]; simp [nameAt_eq (ns := ns) (k := q) (by omega)]
  · intro m₁ news₁ h₃ tk₃ F₃ N₃ z2q
    obtain ⟨ts, c, rfl, hts, m3⟩ := z2q
    k_steps
    exact hret _ _ _ _ ⟨lu, ts, c, rfl, rfl, hts, fun p hp => Nat.ne_of_lt (hlu p hp)⟩ (by k_asm) (by k_asm)
  all_goals passes_own
end SM32
section SN2
set_option maxHeartbeats 2000000
local macro_rules | `(tactic| walk_at "PAD0") => `(tactic| skip)
def CtrPre (w : World) (D U : Nat) (f : Value) (vs : List Value) (news : Led) (Pre : Heap → Prop) (Out : Value → Led → Prop) : Prop :=
  ∀ (mean : ExcName → Option Value) (mg mb : Str → Option Value) (gd : Option (List Code)) (cn : Str) (cs : Scope) (a : Addr) (ccd : Value) (cl : List (Str × Addr)) (outer : List Env) (A₀ : Around) (base h₀ : Heap) (L : Addr) (m : Str → Option Value) (s : Shared) (Q E : Value → Shared → Prop),
    Below A₀ base outer h₀ → Fr h₀ L s.heap m → (hd.heap_1 w.params).In h₀ → News h₀ L s.heap news → Top topProg looseG mean mg mb h₀ → cs.kind = .function → Pre h₀ →
    (∀ (v : Value) (news' : Led) (h' : Heap) (tk' : Nat), Out v news' → Fr h₀ L h' m → News h₀ L h' news' → Q v { s with heap := h', toks := tk' }) →
    wpAny (model PySem.Challenge.pw_wv0033_01 w) (ktrTop D U gd cn cs L a ccd cl outer) (call f vs) Q E s
theorem cells_ok (w : World) {ls : Addr} {vs : List Value} {ns : List Int} {news : Led} (hv : IntsAre vs ns) (hn : ns.length ≤ 63) :
    CtrPre w 320 250 (.ref 239) [.ref ls] news (fun h => h.IsList ls vs.toArray) (fun v news' => ∃ a c0 c1 c2 t0 t1 t2 n, v = .ref a ∧ news' = (a, W.listOf #[.int c0 t0, .int c1 t1, .int c2 t2] n) :: news ∧ (0 ≤ c0 ∧ c0 ≤ 100000000) ∧ (0 ≤ c1 ∧ c1 ≤ 100000000) ∧ (0 ≤ c2 ∧ c2 ≤ 100000000)) := by
  revert w ls vs ns news
  intro PK w ls vs ns news
  intro hv hn
  intro mean mg mb gd cn cs a ccd cl outer A₀ base h₀ L m s Q E B₀ F₀ X₀ N₀ T₀ hk₀ hpre hret
  walk_at "MINE enter"
  rename_i g' L' h₁ FG F' N B X T
  replace F' : Fr g' L' h₁ (fun y => List.lookup y [(Str.ofString "script", .ref ls)]) := F'
  have hgl : g'.IsList ls vs.toArray := hpre.at fun o e => FG.keep _ _ e
  have e1 : h₁.IsList ls vs.toArray := hgl.at fun o e => F'.keep _ _ e
  k_steps
  refine Stop.mk (For_N ?_)
  k_steps
  refine Stop.mk ?_
  rename_i lc _ elc hl2 _ h2 F2 N2
  have hsc : h2.IsList ls vs.toArray := hgl.at fun o e => F2.keep _ _ e
  have hlc : lc < h2.objs.size := Heap.lt_size (N2 _ (List.mem_cons_self ..)).1
  have hcs : lc ≠ ls := fun e => by
    obtain ⟨o, e', _⟩ := e1
    exact Nat.lt_irrefl _ (elc ▸ e ▸ Heap.lt_size e')
  refine loop_enum restHT (fun i m nx => ∃ c0 c1 c2 t0 t1 t2 n, nx = (lc, W.listOf #[.int c0 t0, .int c1 t1, .int c2 t2] n) :: news ∧ m (Str.ofString "cells") = some (.ref lc) ∧ (0 ≤ c0 ∧ c0 ≤ 1756 + 1000000 * (i : Int)) ∧ (0 ≤ c1 ∧ c1 ≤ 1756 + 1000000 * (i : Int)) ∧ (0 ≤ c2 ∧ c2 ≤ 1756 + 1000000 * (i : Int)))
    rfl F2 N2 hsc (list_ne_ns hsc F2.ns) ?_ ?_ ?_
  · exact ⟨21, 214, 1756, _, _, _, 0, rfl, rfl, by omega, by omega, by omega⟩
  · intro i x t T m₁ nx s₁ own wr hx z1q hnw hwr how hmo hr F₁ N₁ hl hT
    obtain ⟨c0, c1, c2, t0, t1, t2, n, rfl, hm, b0, b1, b2⟩ := z1q
    obtain ⟨h₃, tk₃, rfl⟩ := hr
    obtain ⟨v, tv, rfl, hvv⟩ := hv.at i x (by simpa using hx)
    have hi : i < 63 := by
      have := (List.getElem?_eq_some_iff.mp hvv).1; omega
    simp only [List.cons_append] at N₁
    have hoff : ∀ p ∈ news ++ own, p.1 ≠ lc := off_two hl2 hlc hcs how
    k_steps
    have m0 : 0 ≤ (i : Int).fmod 3 ∧ (i : Int).fmod 3 < 3 := by rw [Int.fmod_eq_emod_of_nonneg _ (by decide)]; omega
    have m1 : 0 ≤ v.fmod (10 ^ Int.toNat 6) ∧ v.fmod (10 ^ Int.toNat 6) < 1000000 := by rw [Int.fmod_eq_emod_of_nonneg _ (by decide), show (10 : Int) ^ Int.toNat 6 = 1000000 from rfl]; omega
    generalize (i : Int).fmod 3 = q at m0 ⊢
    generalize v.fmod (10 ^ Int.toNat 6) = z at m1 ⊢
    rename News g' L' _ _ => N4
    rename Fr g' L' _ _ => F4
    refine setItem_N F4 N4 hoff m0.1 (by omega) (by simpa using m0.2) fun h₅ F₅ N₅ => ?_
    have hcase : q = 0 ∨ q = 1 ∨ q = 2 := by omega
    try walk_at "QK"
    refine wpAny_execs_nil (.next ⟨_, (lc, _) :: news, ⟨h₅, _, rfl⟩, F₅, N₅, ?_, ?_⟩)
    · exact off_same (P := fun a => a ∉ wr) hnw
    · rcases hcase with rfl | rfl | rfl
      · exact ⟨_, _, _, _, _, _, _, rfl, hm, by simp; omega, by omega, by omega⟩
      · exact ⟨_, _, _, _, _, _, _, rfl, hm, by omega, by simp; omega, by omega⟩
      · exact ⟨_, _, _, _, _, _, _, rfl, hm, by omega, by omega, by simp; omega⟩
  · intro m₁ nx s₁ z2q F₁ N₁ z3q
    obtain ⟨h₃, tk₃, rfl⟩ := z2q
    obtain ⟨c0, c1, c2, t0, t1, t2, n, rfl, hm, b0, b1, b2⟩ := z3q
    have hsz : vs.toArray.size = ns.length := by rw [List.size_toArray, hv.length]
    rw [hsz] at b0 b1 b2
    k_steps
    exact hret _ _ _ _ ⟨lc, c0, c1, c2, t0, t1, t2, n, rfl, rfl, by omega, by omega, by omega⟩ (by k_asm) (by k_asm)
end SN2
section SN4
set_option maxHeartbeats 2000000
local macro_rules | `(tactic| walk_at "newList") => `(tactic| (k_here; k_dflt (refine' newList_S ?k1 ?k2 ?_; (case k1 => k_asm); (case k2 => k_asm); k_whole); intro l' h' eq' F' N' l1; (try k_lt l1); (try k_sweep)))
local macro_rules | `(tactic| walk_at "eval DictComp") => `(tactic| walk_at "STOP")
abbrev ctxObj (dd : Addr) : Obj := { cls := .ref 228, dict := some dd }
abbrev ctxDict (w : World) (d : Addr) (t₁ t₂ : Tok) : Obj := { cls := .type "dict", data := .dict #[⟨PyData.keyHash w.params (Str.ofString "root"), .str (Str.ofString "root") t₁, .none⟩, ⟨PyData.keyHash w.params (Str.ofString "parent_map"), .str (Str.ofString "parent_map") t₂, .ref d⟩] 2 }
theorem led3 {h₀ h : Heap} {L : Addr} {a b c : Addr × Obj} {r : Led} (N : News h₀ L h (a :: b :: c :: r)) : News h₀ L h (b :: c :: a :: r) := N.perm fun p hp => by
  simp only [List.mem_cons] at hp ⊢
  rcases hp with rfl | rfl | rfl | hp
  · exact .inr (.inl rfl)
  · exact .inr (.inr (.inl rfl))
  · exact .inl rfl
  · exact .inr (.inr (.inr hp))
theorem context_ok (w : World) {l1 l2 : Addr} {ps : List (Str × Tok)} {vs : List Value} {news : Led} (h1 : Sure news fun h => h.IsList l1 (strValues ps).toArray) (h2 : Sure news fun h => h.IsList l2 vs.toArray) (hlen : ps.length = vs.length) (hnd : (ps.map (·.1)).Nodup) (hsz : ps.length ≤ 1000) :
    Ctr w 320 250 (.ref 244) [.ref l1, .ref l2] news (fun v news' => ∃ c dd d t₁ t₂ od, v = .ref c ∧ news' = (c, ctxObj dd) :: (dd, ctxDict w d t₁ t₂) :: (d, od) :: news ∧ (d == sysModules) = false ∧ (∀ p ∈ news, p.1 ≠ c ∧ p.1 ≠ dd ∧ p.1 ≠ d) ∧ ∀ h : Heap, h.get? d = some od → h.DictOf (PySem.strKind Challenge.pw_wv0033_01 w) d ((ps.map (·.1)).zip vs)) := by
  revert w l1 l2 ps vs news
  intro PK w l1 l2 ps vs news
  intro h1 h2 hlen hnd hsz
  intro mean mg mb gd cn cs a ccd cl outer A₀ base h₀ L m s Q E B₀ F₀ X₀ N₀ T₀ hk₀ hret
  walk_at "MINE enter"
  rename_i g' L' h₁ FG F' N B X T
  replace F' : Fr g' L' h₁ (fun y => List.lookup y [(Str.ofString "ends", .ref l2), (Str.ofString "names", .ref l1)]) := F'
  have e1 := h1 _ (has_of N)
  k_steps
  rename_i x' d' _ l1' l2' _ _ _ _ _ _ _ _ _ _ _ _ _ _ F2 N2
  have H2 : Has _ news := fun p hp => (N2 p (List.mem_cons_of_mem _ (List.mem_cons_of_mem _ hp))).1
  refine Stop.mk (dictZip (l1 := l1) (l2 := l2) (ps := ps) (vs := vs) rfl (by decide) rfl (by decide) rfl rfl (by decide) (by decide) (by decide) rfl (h1 _ H2) (h2 _ H2) hlen hnd hsz ?_ ?_)
  · intro Q' E' h
    k_steps
    exact h _
  · intro D h3 tk3 hD hDge hDict hk
    have hDs : (D == sysModules) = false := by
      have hlo := modules_low T.nolimit
      have h1 : @LT.lt Nat _ g'.objs.size _ := Nat.lt_of_le_of_lt F2.above F2.ns.lt
      exact beq_eq_false_iff_ne.mpr (Nat.ne_of_gt (Nat.lt_of_lt_of_le (Nat.lt_trans hlo h1) hDge))
    obtain ⟨od, es, ep, e3, r3⟩ := hDict
    have N3 := news_add F2 N2 hk hD e3
    have F3 := F2.kept hk
    have q1 : @Ne Nat D d' := fun e => by have := (N2 (d', _) (List.mem_cons_of_mem _ (List.mem_cons_self ..))).1; rw [← e, hD] at this; cases this
    have q2 : @Ne Nat D x' := fun e => by have := (N2 (x', _) (List.mem_cons_self ..)).1; rw [← e, hD] at this; cases this
    have q3 : ∀ p ∈ news, p.1 ≠ d' := fun p hp => Nat.ne_of_lt (l1' p hp)
    have q4 : @LT.lt Nat _ d' x' := l2'
    have hfr : ∀ p ∈ news, p.1 ≠ x' ∧ p.1 ≠ d' ∧ p.1 ≠ D := fun p hp => ⟨Nat.ne_of_lt (Nat.lt_trans (l1' p hp) q4), q3 p hp, fun e => by have := (N2 p (List.mem_cons_of_mem _ (List.mem_cons_of_mem _ hp))).1; rw [e, hD] at this; cases this⟩
    clear N2 F2
    k_steps
    rename News h₀ L _ _ => N9
    rename Fr h₀ L _ _ => F9
    exact hret _ _ _ _ ⟨x', d', D, _, _, od, rfl, rfl, hDs, hfr, fun h e => ⟨od, es, ep, e, r3⟩⟩ F9 (led3 N9)
  all_goals first | exact Str.ofString "_law_way" | exact (268 : Nat) | exact Value.none
end SN4
section SN5
set_option maxHeartbeats 2000000
local macro_rules | `(tactic| walk_at "call ref") => `(tactic| walk_at "STOP")
local macro_rules | `(tactic| walk_at "call builtin:list.extend") => `(tactic| walk_at "STOP")
theorem wp_leN {w : World} {D U : Nat} {f : Value} {vs : List Value} {news : Led} {Out : Value → Led → Prop} (C : CtrN w D U f vs news Out)
    {mean : ExcName → Option Value} {mg mb : Str → Option Value} {dp un : Nat} {gd : Option (List Code)} {cn : Str} {cs : Scope} {a : Addr} {ccd : Value} {cl : List (Str × Addr)} {outer : List Env} {A₀ : Around} {base h₀ : Heap} {L : Addr} {m : Str → Option Value} {s : Shared} {Q E : Value → Shared → Prop}
    (hD : dp ≤ D) (hU : un ≤ U) (B : Below A₀ base outer h₀) (F : Fr h₀ L s.heap m) (X : (hd.heap_1 w.params).In h₀) (N : News h₀ L s.heap news) (T : Top topProg looseG mean mg mb h₀) (hk : cs.kind = .function)
    (h : ∀ (v : Value) (news' : Led) (s' : Shared), Out v news' → Same s s' → Fr h₀ L s'.heap m → News h₀ L s'.heap news' → Q v s') :
    wpAny (model PySem.Challenge.pw_wv0033_01 w) (ktrTop dp un gd cn cs L a ccd cl outer) (call f vs) Q E s :=
  wp_le (A' := ktrTop D U gd cn cs L a ccd cl outer) rfl hD rfl rfl hU (C mean mg mb gd cn cs a ccd cl outer A₀ base h₀ L m s Q E B F X N T hk h)
theorem CtrN.useF {w : World} {D U : Nat} {f : Value} {vs : List Value} {news : Led} {Out : Value → Led → Prop} (C : CtrN w D U f vs news Out)
    {mean : ExcName → Option Value} {mg mb : Str → Option Value} {dp un : Nat} {gd : Option (List Code)} {cn n : Str} {cs sc : Scope} {L L' a a' : Addr} {ccd cd : Value} {cl : List (Str × Addr)} {outer : List Env} {A₀ : Around} {base h₀ : Heap} {m : Str → Option Value} {s : Shared} {Q E : Value → Shared → Prop}
    (hD : dp + 1 ≤ D) (hU : un + 3 ≤ U) (B : Below A₀ base (envX cn cs L a ccd cl :: outer) h₀) (F : Fr h₀ L' s.heap m) (X : (hd.heap_1 w.params).In h₀) (N : News h₀ L' s.heap news) (T : Top topProg looseG mean mg mb h₀) (hk : sc.kind = .function)
    (h : ∀ (v : Value) (news' : Led) (s' : Shared), Out v news' → Same s s' → Fr h₀ L' s'.heap m → News h₀ L' s'.heap news' → Q v s') :
    wpAny (model PySem.Challenge.pw_wv0033_01 w) ((ktrTop dp un gd cn cs L a ccd cl outer).deeper (envOf n sc L' a' cd)) (call f vs) Q E s :=
  wp_leN C (dp := dp + 1) (un := un + 3) (gd := gd) (cn := n) (cs := sc) (a := a') (ccd := cd) (cl := (envOf n sc L' a' cd).cells) (outer := envX cn cs L a ccd cl :: outer) (L := L') hD hU B F X N T hk h
theorem CtrK.useF {w : World} {D U : Nat} {f : Value} {vs : List Value} {kw : List (Str × Value)} {news : Led} {Out : Value → Led → Prop} (Ct : CtrK w D U f vs kw news Out)
    {mean : ExcName → Option Value} {mg mb : Str → Option Value} {dp un : Nat} {gd : Option (List Code)} {cn n : Str} {cs sc : Scope} {L L' a a' : Addr} {ccd cd : Value} {cl : List (Str × Addr)} {outer : List Env} {A₀ : Around} {base h₀ : Heap} {m : Str → Option Value} {s : Shared} {Q E : Value → Shared → Prop}
    (hD : dp + 1 ≤ D) (hU : un + 3 ≤ U) (B : Below A₀ base (envX cn cs L a ccd cl :: outer) h₀) (F : Fr h₀ L' s.heap m) (X : (hd.heap_1 w.params).In h₀) (N : News h₀ L' s.heap news) (T : Top topProg looseG mean mg mb h₀) (hk : sc.kind = .function)
    (h : ∀ (v : Value) (news' : Led) (h' : Heap) (tk' : Nat), Out v news' → Fr h₀ L' h' m → News h₀ L' h' news' → Q v { s with heap := h', toks := tk' }) :
    wpAny (model PySem.Challenge.pw_wv0033_01 w) ((ktrTop dp un gd cn cs L a ccd cl outer).deeper (envOf n sc L' a' cd)) (call f vs kw) Q E s :=
  Ct.use (dp := dp + 1) (un := un + 3) (gd := gd) (cn := n) (cs := sc) (a := a') (ccd := cd) (cl := (envOf n sc L' a' cd).cells) (outer := envX cn cs L a ccd cl :: outer) (L := L') hD hU B F X N T hk h
local macro_rules | `(tactic| walk_at "subscriptTail Name Slice ref ref") => `(tactic| (k_here; refine Stop.out ?_))
def chainL (F : Str → Option Str) : Nat → List Str → List Str
  | 0, l => l
  | n + 1, l => chainL F n (l ++ (l.getLast?.bind F).toList)
theorem last_filter (F : Str → Option Str) {ts : List (Str × Tok)} (h : ts ≠ []) : (ts.drop (ts.length - 1)).filterMap (fun p => F p.1) = ((ts.map (·.1)).getLast?.bind F).toList := by
  have z1q : ∃ l x, ts = l ++ [x] := ⟨ts.dropLast, ts.getLast h, (List.dropLast_concat_getLast h).symm⟩
  obtain ⟨l, x, rfl⟩ := z1q
  have e1 : (l ++ [x]).drop ((l ++ [x]).length - 1) = [x] := by simp
  have e2 : ((l ++ [x]).map (·.1)).getLast? = some x.1 := by simp
  rw [e1, e2]
  simp only [List.filterMap_cons, List.filterMap_nil, Option.bind_some]
  cases F x.1 <;> rfl
theorem led_swap {h₀ h : Heap} {L : Addr} {a b : Addr × Obj} {r : Led} (N : News h₀ L h (a :: b :: r)) : News h₀ L h (b :: a :: r) := N.perm (by walk_at "SUB")
theorem zip_stored {A : List Str} {B : List Value} {k : Str} {v : Value} (hn : k ∉ A) (hl : A.length = B.length) : stored (A.zip B) k v = (A ++ [k]).zip (B ++ [v]) := by
  rw [PyProof.Rows.stored_absent, List.zip_append hl]
  · rfl
  · unfold valueAt
    rw [Option.map_eq_none_iff, List.find?_eq_none]
    intro p hp
    simp only [decide_eq_true_eq]
    rintro rfl
    exact hn (List.of_mem_zip hp).1
theorem nodup_take {ns : List (Str × Tok)} (hn : (ns.map (·.1)).Nodup) {i : Nat} (hi : i < ns.length) (hm : (ns[i]'hi).1 ∈ (ns.take i).map (·.1)) : False := by
  obtain ⟨p, hp, e⟩ := List.mem_map.mp hm
  obtain ⟨j, hj, rfl⟩ := List.getElem_of_mem hp
  rw [List.length_take] at hj
  have hji : j < i := by have := Nat.lt_min.mp hj; omega
  rw [List.getElem_take] at e
  exact (List.pairwise_iff_getElem.mp hn) j i (by simp; omega) (by simpa using hi) hji (by simpa using e)
theorem setDict_N {prog : Program} {w : World} {A : Around} {E : Value → Shared → Prop} {s : Shared} {h₀ : Heap} {L D : Addr} {m : Str → Option Value} {o : Obj} {kvs : List (Str × Value)} {k : Str} {t : Tok} {v : Value} {rest : Led} {Q : Unit → Shared → Prop} (F : Fr h₀ L s.heap m) (N : News h₀ L s.heap ((D, o) :: rest))
    (hne : ∀ p ∈ rest, p.1 ≠ D) (hd : o.IsDictOf (PySem.strKind prog w) kvs) (hz : kvs.length ≤ 1000)
    (hQ : ∀ h' o' tk, o'.IsDictOf (PySem.strKind prog w) (stored kvs k v) → Fr h₀ L h' m → News h₀ L h' ((D, o') :: rest) → Q () { s with heap := h', toks := tk }) : wpAny (model prog w) A (setItem (.ref D) (.str k t) v) Q E s := by
  have z := N (D, o) (List.mem_cons_self ..)
  refine wpAny_setItem_pairs (knd := PySem.strKind prog w) (k := k) (by simp [PySem.strKind, Value.isStrOf]) (Heap.dictOf_iff.mpr ⟨o, z.1, hd⟩) (fun h' hd' hs => ?_) (Nat.le_trans hz (by decide))
  obtain ⟨o', ho', hd''⟩ := Heap.dictOf_iff.mp hd'
  exact hQ h' o' _ hd'' (F.change hs z.2.1 z.2.2) (news_set (pre := []) N (fun _ h => nomatch h) hne hs ho')
abbrev ledOf (cs : List (Addr × List (Str × Tok) × Nat)) : Led := cs.map fun c => (c.1, listObj c.2.1 c.2.2)
theorem chains_ok (w : World) {S c dd d ln : Addr} {t₁ t₂ : Tok} {fv : Str → Option Value} {F : Str → Option Str} {ns : List (Str × Tok)} {news : Led} (hS : Sure news (fun h => IsLead h S)) (hctx : Sure news (fun h => IsCtx w h c dd d t₁ t₂)) (hm : Sure news (fun h => h.MapOf (PySem.strKind Challenge.pw_wv0033_01 w) d fv)) (hl : Sure news (fun h => h.IsList ln (strValues ns).toArray))
    (hfv : FvIs fv F) (hds : (d == sysModules) = false) (hlen : ns.length ≤ 10) (hnd : (ns.map (·.1)).Nodup) :
    CtrN w 310 240 (.ref 256) [.ref S, .ref c, .ref ln] news (fun v news' => ∃ C oC cs, v = .ref C ∧ news' = (C, oC) :: (ledOf cs ++ news) ∧ oC.IsDictOf (PySem.strKind Challenge.pw_wv0033_01 w) ((ns.map (·.1)).zip (cs.map fun c => Value.ref c.1)) ∧
      (cs.map fun c => c.2.1.map (·.1)) = ns.map fun p => chainL F 4 [p.1]) := by
  revert w S c dd d ln t₁ t₂ fv F ns news
  intro PK w S c dd d ln t₁ t₂ fv F ns news
  intro hS hctx hm hl hfv hds hlen hnd
  intro mean mg mb gd cn cs a ccd cl outer A₀ base h₀ L m s Q E B₀ F₀ X₀ N₀ T₀ hk₀ hret
  walk_at "MINE enter"
  rename_i g' L' h₁ FG F' N B X T
  replace F' : Fr g' L' h₁ (fun y => List.lookup y [(Str.ofString "names", .ref ln), (Str.ofString "tree", .ref c), (Str.ofString "lead", .ref S)]) := F'
  have e1 := hl _ (has_of N)
  k_steps
  rename_i C _ oC l1C _ hoC _ _ _ h2 F2 N2
  have hsub : ∀ {h : Heap} {P : Heap → Prop} {a : Led}, Sure news P → Has h (a ++ news) → P h := fun hs H => hs _ fun p hp => H p (List.mem_append_right _ hp)
  refine Stop.mk (For_N ?_)
  k_steps
  refine Stop.mk ?_
  have hC2 : C < h2.objs.size := Heap.lt_size (N2 _ (List.mem_cons_self ..)).1
  have zC := (N2 _ (List.mem_cons_self ..)).1
  have eln := hl _ fun p hp => (N2 p (List.mem_cons_of_mem _ hp)).1
  refine loop_list restSame (fun i m nx => ∃ oC cs, nx = (C, oC) :: (ledOf cs ++ news) ∧ cs.length = i ∧ oC.IsDictOf (PySem.strKind Challenge.pw_wv0033_01 w) (((ns.take i).map (·.1)).zip (cs.map fun c => Value.ref c.1)) ∧
      (cs.map fun c => c.2.1.map (·.1)) = (ns.take i).map (fun p => chainL F 4 [p.1]) ∧ (∀ p ∈ ledOf cs ++ news, p.1 ≠ C) ∧
      m (Str.ofString "chains") = some (.ref C) ∧ m (Str.ofString "tree") = some (.ref c) ∧ m (Str.ofString "lead") = some (.ref S))
    rfl F2 N2 eln (list_ne_ns eln F2.ns) ?_ ?_ ?_ ?_
  · intro v hv
    exact GoList.name
  · exact ⟨oC, [], rfl, rfl, hoC, rfl, fun p hp => Nat.ne_of_lt (l1C p hp), rfl, rfl, rfl⟩
  · intro i v m₁ nx s₁ own I hi z2q hnI hIs how z3q hr F₁ N₁ hls
    obtain ⟨oC, cs, rfl, hcl, hod, hcs, hoff, m1, m2, m3⟩ := z2q
    obtain ⟨oI, hmI⟩ := z3q
    have hin : i < ns.length := by
      have := (Array.getElem?_eq_some_iff.mp hi).1; simpa [strValues] using this
    obtain rfl : v = .str (ns[i]'hin).1 (ns[i]'hin).2 := by
      have : (strValues ns).toArray[i]? = some (.str (ns[i]'hin).1 (ns[i]'hin).2) := by simp [strValues, hin]
      exact Option.some.inj (hi.symm.trans this)
    simp only [List.cons_append, List.append_assoc] at N₁
    k_steps
    rename_i lc _ elc lrc _ h4 F4 N4
    refine Stop.mk (For_N ?_)
    k_steps
    refine Stop.mk ?_
    have hlc4 : lc < h4.objs.size := Heap.lt_size (N4 _ (List.mem_cons_self ..)).1
    refine loop_range1 restSame (fun k m nx => ∃ ts cap, nx = (lc, listObj ts cap) :: (C, oC) :: (ledOf cs ++ (news ++ own)) ∧ ts ≠ [] ∧ ts.length ≤ k + 1 ∧ k ≤ 4 ∧ chainL F (4 - k) (ts.map (·.1)) = chainL F 4 [(ns[i]'hin).1] ∧
        m (Str.ofString "chain") = some (.ref lc) ∧ m (Str.ofString "name") = some (.str (ns[i]'hin).1 (ns[i]'hin).2) ∧ m (Str.ofString "chains") = some (.ref C) ∧ m (Str.ofString "tree") = some (.ref c) ∧ m (Str.ofString "lead") = some (.ref S))
      rfl F4 N4 (by decide) (by decide) ?_ ?_ ?_
    · exact ⟨[((ns[i]'hin).1, (ns[i]'hin).2)], 0, rfl, by simp, by simp, by omega, rfl, rfl, rfl, m1, m2, m3⟩
    · intro k t m₂ nx s₂ own2 I2 hk4 z4q hnI2 hI2 how2 hmI2 hr2 F₂ N₂
      obtain ⟨ts, cap, rfl, hts0, htl, hk5, hch, q1, q2, q3, q4, q5⟩ := z4q
      simp only [List.cons_append, List.append_assoc] at N₂
      k_steps
      rename_i h6 F6 N6
      refine Stop.mk ?_
      have z6 := (N6 _ (List.mem_cons_self ..)).1
      refine kmk_slice (its := (strValues ts).toArray) (lo := some (-1)) (hi := none) F6 N6 ⟨_, z6, rfl, cap, rfl⟩ (.int _ _) .none (fun ls h7 F7 N7 hls7 => ?_) (by with_unfolding_all rfl) (by intro _; rfl) (by simp [strValues]; unfold sizeLine; omega)
      have ePick : slicePick (strValues ts).toArray (some (-1)) none none = (strValues (ts.drop (ts.length - 1))).toArray := (slicePick_last (strValues ts).toArray 1 (Nat.le_refl _)).trans (by simp [strValues, List.map_drop])
      rw [ePick] at N7
      have hlss : ls ≠ lc := fun e => by have := hls7 _ (List.mem_cons_self ..); rw [e] at this; exact Nat.lt_irrefl _ this
      clear F6 N6
      k_steps
      refine Stop.mk ?_
      have up : ∀ {P : Heap → Prop} {h : Heap}, Sure news P → Has h ((ls, W.listOf (strValues (ts.drop (ts.length - 1))).toArray 0) :: (lc, listObj ts cap) :: (C, oC) :: (ledOf cs ++ (news ++ (own ++ own2)))) → P h := fun hs H => hs _ fun p hp =>
        H p (List.mem_cons_of_mem _ (List.mem_cons_of_mem _ (List.mem_cons_of_mem _ (List.mem_append_right _ (List.mem_append_left _ hp)))))
      refine (led_ok w (S := S) (c := c) (dd := dd) (d := d) (l := ls) (t₁ := t₁) (t₂ := t₂) (fv := fv) (F := F) (ps := ts.drop (ts.length - 1)) (news := (ls, W.listOf (strValues (ts.drop (ts.length - 1))).toArray 0) :: (lc, listObj ts cap) :: (C, oC) :: (ledOf cs ++ (news ++ (own ++ own2)))) (fun h H => up hS H) (fun h H => up hctx H) (fun h H => up hm H) (fun h H => ⟨_, H _ (List.mem_cons_self ..), rfl, _, rfl⟩) hfv hds (by simp; omega)).useF (by decide) (by decide) B F7 X N7 T rfl fun v nx' s8 hv hs8 F8 N8 => ?_
      obtain ⟨a9, ts9, n9, rfl, rfl, ht9⟩ := hv
      clear F7 N7
      k_steps
      refine Stop.mk ?_
      have hoffL : ∀ p ∈ (C, oC) :: (ledOf cs ++ (news ++ (own ++ own2))), p.1 ≠ lc := by
        intro p hp e
        have h1 : p ∈ (C, oC) :: (ledOf cs ++ (news ++ own)) ∨ p ∈ own2 := List.mem_append.mp ((fun (q : ∀ z ∈ _, z ∈ _) => q _ hp) (by walk_at "SUB"))
        rcases h1 with h1 | h1
        · exact Nat.lt_irrefl _ (e ▸ lrc p h1)
        · exact Nat.lt_irrefl _ (Nat.lt_of_lt_of_le (e ▸ hlc4) (e ▸ how2 p h1))
      have N8' : News g' L' s8.heap ((lc, listObj ts cap) :: (C, oC) :: (ledOf cs ++ (news ++ (own ++ own2)))) := fun p hp => N8 p (List.mem_cons_of_mem _ (List.mem_cons_of_mem _ hp))
      have ht9l : ts9.length ≤ 1 := by
        have := congrArg List.length ht9
        rw [List.length_map] at this
        rw [this]
        exact Nat.le_trans (List.length_filterMap_le _ _) (by simp; omega)
      refine extend_N F8 N8' hoffL (N8 _ (List.mem_cons_self ..)).1 (by simp [strValues]; omega) fun h9 n' F9 N9 => ?_
      clear F8 N8 N8'
      have e10 : (strValues ts).toArray ++ (strValues ts9).toArray = (strValues (ts ++ ts9)).toArray := by simp [strValues]
      rw [e10] at N9
      k_steps
      refine .next ⟨_, (lc, listObj (ts ++ ts9) n') :: (C, oC) :: (ledOf cs ++ (news ++ own)), ?_, F9, N9.perm (fun p hp => by simpa [List.append_assoc] using hp), off_same (P := fun a => a ∉ [I2]) (fun p hp => by simpa using hnI2 p hp), ts ++ ts9, n', rfl, by simp [hts0], by simp; omega, by omega, ?_, q1, q2, q3, q4, q5⟩
      · exact restSame.trans hr2 (restSame.trans (restSame.step _ _ _) (restSame.trans hs8 (restSame.step _ _ _)))
      · rw [← hch, show 4 - k = (4 - (k + 1)) + 1 by omega, chainL, List.map_append, ht9]
        congr 2
        exact last_filter F hts0
    · intro m₂ nx s₂ hr2 F₂ N₂ z5q
      obtain ⟨ts, cap, rfl, hts0, htl, hk5, hch, q1, q2, q3, q4, q5⟩ := z5q
      k_steps
      have hts5 : ts.length ≤ 5 := htl
      have hch4 : ts.map (·.1) = chainL F 4 [(ns[i]'hin).1] := hch
      have hCln : C ≠ ln := by
        rintro rfl
        obtain ⟨o, e, k, _⟩ := eln
        have e2 := zC
        rw [e] at e2
        cases e2
        obtain ⟨_, _, ⟨k2, _⟩, _⟩ := hoC
        rw [k] at k2
        exact absurd k2 (by decide)
      have hneC : ∀ p ∈ (lc, listObj ts cap) :: (ledOf cs ++ (news ++ own)), p.1 ≠ C := by
        intro p hp e
        rcases List.mem_cons.mp hp with rfl | hp
        · exact Nat.lt_irrefl _ (e ▸ lrc (C, oC) (List.mem_cons_self ..))
        · rw [← List.append_assoc] at hp
          rcases List.mem_append.mp hp with hp | hp
          · exact hoff p hp e
          · rcases how p hp with h | h
            · exact hCln (e.symm.trans h)
            · exact Nat.lt_irrefl _ (Nat.lt_of_lt_of_le (e ▸ hC2) (e ▸ h))
      refine setDict_N F₂ (led_swap N₂) hneC hod (by simp; omega) fun h' o' tk' ho' F9 N9 => ?_
      have hlen1 : ((ns.take i).map (·.1)).length = (cs.map fun c => Value.ref c.1).length := by simp; omega
      rw [zip_stored (fun hm => nodup_take hnd hin hm) hlen1] at ho'
      have eA : (ns.take i).map (·.1) ++ [(ns[i]'hin).1] = (ns.take (i + 1)).map (·.1) := by rw [List.take_succ_eq_append_getElem hin, List.map_append]; rfl
      rw [eA] at ho'
      clear F₂ N₂
      k_steps
      refine .next ⟨_, (C, o') :: (ledOf (cs ++ [(lc, ts, cap)]) ++ news), ?_, F9, N9.perm (fun p hp => ?_), fun p hp => ?_, o', cs ++ [(lc, ts, cap)], rfl, by simp [hcl], by simpa using ho', ?_, fun p hp => ?_, q3, q4, q5⟩
      · exact restSame.trans hr (restSame.trans (restSame.step _ _ _) (restSame.trans hr2 (restSame.step _ _ _)))
      · (revert hp; revert p; (try simp only [ledOf, List.map_append, List.map_cons, List.map_nil, List.cons_append, List.append_assoc]); walk_at "SUB")
      · have : p ∈ (C, o') :: (lc, listObj ts cap) :: (ledOf cs ++ news) := by
          (revert hp; revert p; (try simp only [ledOf, List.map_append, List.map_cons, List.map_nil, List.cons_append, List.append_assoc]); walk_at "SUB")
        rcases List.mem_cons.mp this with rfl | this; rotate_left; rcases List.mem_cons.mp this with rfl | h
        rotate_left 2
        · simpa using hnI (C, oC) (List.mem_cons_self ..)
        · simpa using fun e => Nat.lt_irrefl _ (e ▸ lrc (I, oI) (List.mem_cons_of_mem _ (List.mem_append_right _ (List.mem_append_right _ hmI))))
        · simpa using hnI p (List.mem_cons_of_mem _ h)
      · rw [List.map_append, hcs, List.take_succ_eq_append_getElem hin, List.map_append]
        simp only [List.map_cons, List.map_nil]
        rw [hch4]
      · have : p ∈ (lc, listObj ts cap) :: (ledOf cs ++ news) := by
          (revert hp; revert p; (try simp only [ledOf, List.map_append, List.map_cons, List.map_nil, List.cons_append, List.append_assoc]); walk_at "SUB")
        rcases List.mem_cons.mp this with rfl | h
        · exact fun e => Nat.lt_irrefl _ (e ▸ lrc (C, oC) (List.mem_cons_self ..))
        · exact hoff p h
  · intro m₁ nx s₁ hr F₁ N₁ z6q
    obtain ⟨oC, cs, rfl, hcl, hod, hcs, hoff, m1, m2, m3⟩ := z6q
    have hsz : (strValues ns).toArray.size = ns.length := by simp [strValues]
    rw [hsz, List.take_length] at hod hcs
    k_steps
    rename News h₀ L _ _ => N9
    rename Fr h₀ L _ _ => F9
    exact hret _ _ _ ⟨C, oC, cs, rfl, rfl, hod, hcs⟩ (restSame.trans (restSame.step s _ _) hr) F9 N9
end SN5
section SN6
set_option maxHeartbeats 2000000
local macro_rules | `(tactic| walk_at "call ref") => `(tactic| (k_here; (fail_if_success (with_reducible show wpAny _ _ (call (Value.ref 193) _) _ _ _)); refine Stop.out ?_))
abbrev Hd := Addr × (Str × Tok) × (Str × Tok)
abbrev tupObj (h : Hd) : Obj := { cls := .type "tuple", data := .seq #[.str h.2.1.1 h.2.1.2, .str h.2.2.1 h.2.2.2] }
abbrev hdLed (hs : List Hd) : Led := hs.map fun h => (h.1, tupObj h)
abbrev hdRefs (hs : List Hd) : List Value := hs.map fun h => .ref h.1
abbrev hdDict (w : World) (lh : Addr) (t : Tok) : Obj := { cls := .type "dict", data := .dict #[⟨PyData.keyHash w.params (Str.ofString "_headers"), .str (Str.ofString "_headers") t, .ref lh⟩] 1 }
abbrev tabLed (w : World) (T dT lh : Addr) (t : Tok) (n : Nat) (hs : List Hd) : Led := (T, { cls := .ref 193, dict := some dT }) :: (dT, hdDict w lh t) :: (lh, W.listOf (hdRefs hs).toArray n) :: hdLed hs
abbrev okText (x : Str) : Prop := ∀ d ∈ x.cps.toList, okSign d = true
theorem init_ok (w : World) {lh : Addr} {n : Nat} {hs : List Hd} {news : Led} (hok : ∀ h ∈ hs, okText h.2.1.1 ∧ okText h.2.2.1) (hlen : hs.length ≤ 100) :
    Ctr w 330 270 (.ref 193) [.ref lh] ((lh, W.listOf (hdRefs hs).toArray n) :: (hdLed hs ++ news)) (fun v news' => ∃ T dT t, v = .ref T ∧ news' = tabLed w T dT lh t n hs ++ news ∧ ∀ p ∈ news, p.1 ≠ T ∧ p.1 ≠ dT) := by
  revert w lh n hs news
  intro PK w lh n hs news
  intro hok hlen
  intro mean mg mb gd cn cs a ccd cl outer A₀ base h₀ L m s Q E B₀ F₀ X₀ N₀ T₀ hk₀ hret
  walk_at "MINE fill"
  refine call_cls F₀ X₀ N₀ (by k_is) (by k_is) (by k_is) fun T dT h1 F1 N1 l1 l2 => ?_
  clear F₀ N₀
  replace l2 := ltN l2
  have l3 : ∀ p ∈ (lh, W.listOf (hdRefs hs).toArray n) :: (hdLed hs ++ news), p.1 ≠ dT := fun p hp => Nat.ne_of_lt (l1 p hp)
  have hfr : ∀ p ∈ news, p.1 ≠ T ∧ p.1 ≠ dT := fun p hp => ⟨Nat.ne_of_lt (Nat.lt_trans (l1 p (List.mem_cons_of_mem _ (List.mem_append_right _ hp))) l2), Nat.ne_of_lt (l1 p (List.mem_cons_of_mem _ (List.mem_append_right _ hp)))⟩
  walk_at "MINE code"
  intro g' L' h1' FG F' N B X Tp
  try dsimp only
  try k_lift B
  try k_fold
  replace F' : Fr g' L' h1' (fun y => List.lookup y [(Str.ofString "headers", .ref lh), (Str.ofString "self", .ref T)]) := F'
  k_steps
  refine Stop.mk (For_N ?_)
  k_steps
  refine Stop.mk ?_
  rename_i h2 F2 N2 _ _
  have z1q : ∃ t, News g' L' h2 ((T, instObj 193 dT) :: (dT, hdDict w lh t) :: (lh, W.listOf (hdRefs hs).toArray n) :: (hdLed hs ++ news)) := ⟨_, N2⟩
  obtain ⟨t0, N2⟩ := z1q
  have hl2 : h2.IsList lh (hdRefs hs).toArray := ⟨_, (N2 _ (List.mem_cons_of_mem _ (List.mem_cons_of_mem _ (List.mem_cons_self ..)))).1, rfl, n, rfl⟩
  refine loop_listH (fun i m nx => nx = (T, instObj 193 dT) :: (dT, hdDict w lh t0) :: (lh, W.listOf (hdRefs hs).toArray n) :: (hdLed hs ++ news) ∧ m (Str.ofString "self") = some (.ref T)) rfl F2 N2 hl2 (list_ne_ns hl2 F2.ns) ?_ ?_ ?_ ?_
  · intro v hv
    have z2q : ∃ h ∈ hs, Value.ref h.1 = v := by simpa using hv
    obtain ⟨h, _, rfl⟩ := z2q
    exact GoList.tuple
  · exact ⟨rfl, rfl⟩
  · intro i v m₁ nx h₃ tk₃ own I hi z3q hnI hIs how hmI F₁ N₁ hls
    obtain ⟨rfl, m1⟩ := z3q
    have z4q : ∃ h ∈ hs, Value.ref h.1 = v := by
      have := Array.mem_of_getElem? hi
      simpa using this
    obtain ⟨h, hh, rfl⟩ := z4q
    have hT : IsTup h₃ h.1 #[.str h.2.1.1 h.2.1.2, .str h.2.2.1 h.2.2.2] := ⟨_, (N₁ (h.1, tupObj h) (by simp only [List.mem_append, List.mem_cons, List.mem_map]; exact .inl (.inr (.inr (.inr (.inl ⟨h, hh, rfl⟩)))))).1, rfl, _, rfl⟩
    obtain ⟨ok1, ok2⟩ := hok h hh
    simp only [List.cons_append, List.append_assoc] at N₁
    k_steps
    rename_i h4 F4 N4
    refine Stop.mk ?_
    refine (conv_ok w (.ref T) h.2.1.1 h.2.1.2 true _ ok1).useF (Nat.le_of_ble_eq_true rfl) (Nat.le_of_ble_eq_true rfl) B F4 X N4 Tp rfl fun v4 nx4 h5 tk5 hv F5 N5 => ?_
    obtain ⟨rfl, rfl⟩ := hv
    clear F4 N4
    k_steps
    refine Stop.mk ?_
    refine (conv_ok w (.ref T) h.2.2.1 h.2.2.2 false _ ok2).useF (Nat.le_of_ble_eq_true rfl) (Nat.le_of_ble_eq_true rfl) B F5 X N5 Tp rfl fun v4 nx4 h6 tk6 hv F6 N6 => ?_
    obtain ⟨rfl, rfl⟩ := hv
    clear F5 N5
    k_steps
    exact .next ⟨_, _, ht_mk, F6, N6.perm (fun p hp => by simpa [List.append_assoc] using hp), fun p hp => by simpa using hnI p hp, rfl, m1⟩
  · intro m₁ nx h₃ tk₃ F₁ N₁ z5q
    obtain ⟨rfl, m1⟩ := z5q
    k_steps
    exact hret _ _ _ _ ⟨T, dT, t0, rfl, rfl, hfr⟩ (by k_asm) (by k_asm)
end SN6
section SN11
set_option maxHeartbeats 2000000
section
variable {prog : Program} {w : World} {A : Around} {E : Value → Shared → Prop} {s : Shared} {cenv : Env}
theorem hd_test {p1 p2 p3 p4 p5 p6 p7 : Pos} {kk : Nat} {whole : Sem Value} {a c : Addr} {k y : Str} {kt ty : Tok} {v : Value} {m : Str → Option Value} {Q : Bool → Shared → Prop}
    (hk : cenv.scope.kind = .function) (hx : cenv.kindOf (Str.ofString "kv") = some .local) (hc : cenv.kindOf (Str.ofString "name") = some .cell) (hcc : cenv.cells.lookup (Str.ofString "name") = some c)
    (hn : s.heap.Ns cenv.locals m) (hv : m (Str.ofString "kv") = some (.ref a)) (hT : IsTup s.heap a #[.str k kt, v]) (vc : s.heap.IsCell c (some (.str y ty)))
    (hline : (p4.endLine == p5.line) = true) (hbase : attributeBase (.Subscript (nm "kv" p1) (.Constant (.int 0) kk p2) p3) (Str.ofString "lower") cenv (eval (.Subscript (nm "kv" p1) (.Constant (.int 0) kk p2) p3) cenv) = eval (.Subscript (nm "kv" p1) (.Constant (.int 0) kk p2) p3) cenv)
    (hsz : k.length ≤ 10000) (hQ : ∀ tk, Q (Txt.lower k != y) { s with toks := tk }) :
    wpAny (model prog w) A (isTrue (.Compare (.Call (.Attribute (.Subscript (nm "kv" p1) (.Constant (.int 0) kk p2) p3) (Str.ofString "lower") p4) [] [] p5) [.NotEq] [nm "name" p6] p7) cenv whole) Q E s := by
  refine wpAny_isTrue_Compare1 (Call_method0 hbase hline (wpAny_Subscript_Constant_late (name_ok hk hx hn hv (wpAny_Constant_int ⟨"tuple", _, slot_tuple_getitem.lookup, hT.typeIs, ?_⟩))))
  refine PyProof.Rows.getItem_tuple (s := { s with toks := s.toks + 1 }) hT (by decide) (by decide) (j := 0) rfl rfl ?_
  refine SBL.lower (by omega) fun hle => ?_
  exact name_cell hk hc hcc vc (PyProof.Rows.ne_str (wpAny_truthy_bool (hQ _)))
end
end SN11
section SP3
set_option maxHeartbeats 4000000
set_option synthInstance.maxHeartbeats 400000
set_option synthInstance.maxSize 4096
abbrev okT (x : Str) : Prop := ∀ d ∈ x.cps.toList, okSign d = true
def upN : List Str := [Str.ofString "a", Str.ofString "b", Str.ofString "ab", Str.ofString "ba", Str.ofString "bab"]
def dnN : List Str := [Str.ofString "A", Str.ofString "B", Str.ofString "Ab", Str.ofString "Ba", Str.ofString "Bab"]
def stepT (s : Stp) : Str := if s.2 then upN.getD s.1 ⟨#[]⟩ else dnN.getD s.1 ⟨#[]⟩
def textT (ss : List Stp) (mk : Str) : Str := Txt.join (Str.ofString "") (ss.map fun s => stepT s ++ mk)
def marks : List Str := [Str.ofString " ", Str.ofString "x", Str.ofString "; "]
def chT (l : List Nat) : List Str := l.map fun k => upN.getD k ⟨#[]⟩
def okPair (as bs : List Nat) (mk : Str) : Bool :=
  wayFit (chT as) (chT bs) mk && (wayZ (chT as) (chT bs) mk).cps.toList.all okSign && decide (wayZ (chT as) (chT bs) mk = textT (wayS as bs) mk) && decide ((Txt.split (textT (wayS as bs) mk) mk).dropLast = (wayS as bs).map stepT) && decide ((textT (wayS as bs) mk).length ≤ 900) && decide ((wayS as bs).length ≤ 10) && JoinOk (Str.ofString "") ((wayS as bs).map fun s => stepT s ++ mk)
def pairs0 : List (List Nat × List Nat) := [([0], [0]), ([0], [1, 0]), ([0], [2, 0]), ([0], [3, 0]), ([0], [4, 0]), ([1, 0], [0]), ([1, 0], [1, 0]), ([1, 0], [2, 0]), ([1, 0], [3, 0]), ([1, 0], [4, 0]), ([2, 0], [0]), ([2, 0], [1, 0]), ([2, 0], [2, 0]), ([2, 0], [3, 0]), ([2, 0], [4, 0]), ([3, 0], [0]), ([3, 0], [1, 0]), ([3, 0], [2, 0]), ([3, 0], [3, 0])]
def pairs1 : List (List Nat × List Nat) := [([3, 0], [4, 0]), ([4, 0], [0]), ([4, 0], [1, 0]), ([4, 0], [2, 0]), ([4, 0], [3, 0]), ([4, 0], [4, 0]), ([0], [4, 1, 0]), ([1, 0], [4, 1, 0]), ([2, 0], [4, 1, 0]), ([3, 0], [4, 1, 0]), ([4, 1, 0], [0]), ([4, 1, 0], [1, 0]), ([4, 1, 0], [2, 0]), ([4, 1, 0], [3, 0]), ([4, 1, 0], [4, 1, 0]), ([0], [4, 2, 0]), ([1, 0], [4, 2, 0]), ([2, 0], [4, 2, 0]), ([3, 0], [4, 2, 0])]
def pairs2 : List (List Nat × List Nat) := [([4, 2, 0], [0]), ([4, 2, 0], [1, 0]), ([4, 2, 0], [2, 0]), ([4, 2, 0], [3, 0]), ([4, 2, 0], [4, 2, 0]), ([0], [4, 3, 0]), ([1, 0], [4, 3, 0]), ([2, 0], [4, 3, 0]), ([3, 0], [4, 3, 0]), ([4, 3, 0], [0]), ([4, 3, 0], [1, 0]), ([4, 3, 0], [2, 0]), ([4, 3, 0], [3, 0]), ([4, 3, 0], [4, 3, 0]), ([0], [3, 1, 0]), ([1, 0], [3, 1, 0]), ([2, 0], [3, 1, 0]), ([3, 1, 0], [0]), ([3, 1, 0], [1, 0])]
def pairs3 : List (List Nat × List Nat) := [([3, 1, 0], [2, 0]), ([3, 1, 0], [3, 1, 0]), ([3, 1, 0], [4, 0]), ([4, 0], [3, 1, 0]), ([3, 1, 0], [4, 1, 0]), ([4, 1, 0], [3, 1, 0]), ([3, 1, 0], [4, 2, 0]), ([4, 2, 0], [3, 1, 0]), ([0], [4, 3, 1, 0]), ([1, 0], [4, 3, 1, 0]), ([2, 0], [4, 3, 1, 0]), ([3, 1, 0], [4, 3, 1, 0]), ([4, 3, 1, 0], [0]), ([4, 3, 1, 0], [1, 0]), ([4, 3, 1, 0], [2, 0]), ([4, 3, 1, 0], [3, 1, 0]), ([4, 3, 1, 0], [4, 3, 1, 0]), ([0], [3, 2, 0]), ([1, 0], [3, 2, 0])]
def pairs4 : List (List Nat × List Nat) := [([2, 0], [3, 2, 0]), ([3, 2, 0], [0]), ([3, 2, 0], [1, 0]), ([3, 2, 0], [2, 0]), ([3, 2, 0], [3, 2, 0]), ([3, 2, 0], [4, 0]), ([4, 0], [3, 2, 0]), ([3, 2, 0], [4, 1, 0]), ([4, 1, 0], [3, 2, 0]), ([3, 2, 0], [4, 2, 0]), ([4, 2, 0], [3, 2, 0]), ([0], [4, 3, 2, 0]), ([1, 0], [4, 3, 2, 0]), ([2, 0], [4, 3, 2, 0]), ([3, 2, 0], [4, 3, 2, 0]), ([4, 3, 2, 0], [0]), ([4, 3, 2, 0], [1, 0]), ([4, 3, 2, 0], [2, 0]), ([4, 3, 2, 0], [3, 2, 0])]
def pairs5 : List (List Nat × List Nat) := [([4, 3, 2, 0], [4, 3, 2, 0]), ([0], [2, 1, 0]), ([1, 0], [2, 1, 0]), ([2, 1, 0], [0]), ([2, 1, 0], [1, 0]), ([2, 1, 0], [2, 1, 0]), ([2, 1, 0], [3, 0]), ([2, 1, 0], [4, 0]), ([3, 0], [2, 1, 0]), ([4, 0], [2, 1, 0]), ([2, 1, 0], [4, 1, 0]), ([4, 1, 0], [2, 1, 0]), ([0], [4, 2, 1, 0]), ([1, 0], [4, 2, 1, 0]), ([2, 1, 0], [4, 2, 1, 0]), ([3, 0], [4, 2, 1, 0]), ([4, 2, 1, 0], [0]), ([4, 2, 1, 0], [1, 0]), ([4, 2, 1, 0], [2, 1, 0])]
def pairs6 : List (List Nat × List Nat) := [([4, 2, 1, 0], [3, 0]), ([4, 2, 1, 0], [4, 2, 1, 0]), ([2, 1, 0], [4, 3, 0]), ([4, 3, 0], [2, 1, 0]), ([2, 1, 0], [3, 1, 0]), ([3, 1, 0], [2, 1, 0]), ([3, 1, 0], [4, 2, 1, 0]), ([4, 2, 1, 0], [3, 1, 0]), ([2, 1, 0], [4, 3, 1, 0]), ([4, 3, 1, 0], [2, 1, 0]), ([0], [3, 2, 1, 0]), ([1, 0], [3, 2, 1, 0]), ([2, 1, 0], [3, 2, 1, 0]), ([3, 2, 1, 0], [0]), ([3, 2, 1, 0], [1, 0]), ([3, 2, 1, 0], [2, 1, 0]), ([3, 2, 1, 0], [3, 2, 1, 0]), ([3, 2, 1, 0], [4, 0]), ([4, 0], [3, 2, 1, 0])]
def pairs7 : List (List Nat × List Nat) := [([3, 2, 1, 0], [4, 1, 0]), ([4, 1, 0], [3, 2, 1, 0]), ([3, 2, 1, 0], [4, 2, 1, 0]), ([4, 2, 1, 0], [3, 2, 1, 0]), ([0], [4, 3, 2, 1, 0]), ([1, 0], [4, 3, 2, 1, 0]), ([2, 1, 0], [4, 3, 2, 1, 0]), ([3, 2, 1, 0], [4, 3, 2, 1, 0]), ([4, 3, 2, 1, 0], [0]), ([4, 3, 2, 1, 0], [1, 0]), ([4, 3, 2, 1, 0], [2, 1, 0]), ([4, 3, 2, 1, 0], [3, 2, 1, 0]), ([4, 3, 2, 1, 0], [4, 3, 2, 1, 0])]
def allPairs : List (List Nat × List Nat) := pairs0 ++ pairs1 ++ pairs2 ++ pairs3 ++ pairs4 ++ pairs5 ++ pairs6 ++ pairs7
theorem okp0 : ∀ q ∈ pairs0, ∀ mk ∈ marks, okPair q.1 q.2 mk = true := by decide +kernel
theorem okp1 : ∀ q ∈ pairs1, ∀ mk ∈ marks, okPair q.1 q.2 mk = true := by decide +kernel
theorem okp2 : ∀ q ∈ pairs2, ∀ mk ∈ marks, okPair q.1 q.2 mk = true := by decide +kernel
theorem okp3 : ∀ q ∈ pairs3, ∀ mk ∈ marks, okPair q.1 q.2 mk = true := by decide +kernel
theorem okp4 : ∀ q ∈ pairs4, ∀ mk ∈ marks, okPair q.1 q.2 mk = true := by decide +kernel
theorem okp5 : ∀ q ∈ pairs5, ∀ mk ∈ marks, okPair q.1 q.2 mk = true := by decide +kernel
theorem okp6 : ∀ q ∈ pairs6, ∀ mk ∈ marks, okPair q.1 q.2 mk = true := by decide +kernel
theorem okp7 : ∀ q ∈ pairs7, ∀ mk ∈ marks, okPair q.1 q.2 mk = true := by decide +kernel
theorem in_pairs : ∀ a < 2, ∀ b < 3, ∀ c < 4, ∀ i < 5, ∀ j < 5, (chN (tree a b c) i, chN (tree a b c) j) ∈ allPairs := by decide +kernel
end SP3
section SN10
set_option maxHeartbeats 2000000
local macro_rules | `(tactic| walk_at "eval ListComp") => `(tactic| walk_at "STOP")
local macro_rules | `(tactic| walk_at "call ref") => `(tactic| walk_at "STOP")
theorem off_cls {h₀ h : Heap} {L l : Addr} {o : Obj} {led : Led} (N : News h₀ L h led) (hm : (l, o) ∈ led) {p : Addr × Obj} (hp : p ∈ led) (hc : p.2.cls ≠ o.cls) : p.1 ≠ l := fun e => by
  have h1 := (N _ hm).1
  have h2 := (N p hp).1
  rw [e] at h2
  exact hc (congrArg Obj.cls (Option.some.inj (h2.symm.trans h1)))
def delHd (x : Str) (hs : List Hd) : List Hd := hs.filter fun h => Txt.lower h.2.1.1 != Txt.lower x
theorem del_ok (w : World) {T dT lh : Addr} {t tk : Tok} {n : Nat} {hs : List Hd} {x : Str} {news : Led} (hx : okText (Txt.lower x)) (hxl : x.length ≤ 1000) (hkl : ∀ h ∈ hs, h.2.1.1.length ≤ 1000) (hlen : hs.length ≤ 100) (hoff : ∀ p ∈ news, p.1 ≠ lh) :
    Ctr w 335 280 (.ref 111) [.ref T, .str x tk] (tabLed w T dT lh t n hs ++ news) (fun v news' => v = .none ∧ ∃ n', news' = tabLed w T dT lh t n' (delHd x hs) ++ news) := by
  revert w T dT lh t tk n hs x news
  intro PK w T dT lh t tk n hs x news
  intro hx hxl hkl hlen hoff
  intro mean mg mb gd cn cs a ccd cl outer A₀ base h₀ L m s Q E B₀ F₀ X₀ N₀ T₀ hk₀ hret
  walk_at "MINE enter"
  rename_i g' L' hh tk₁ FG F' B X Tp l1 o1 d1 N
  try simp only [List.cons_append] at N
  have c1 : o1.data = .cell (some (.str x tk)) := d1.trans (by kernel_rfl)
  clear d1
  replace F' : Fr g' L' hh (fun y => if y = Str.ofString "self" then some (.ref T) else none) := F'
  have hc9 : ∀ p ∈ (T, ({ cls := Value.ref 193, dict := some dT } : Obj)) :: (dT, hdDict w lh t) :: (lh, W.listOf (hdRefs hs).toArray n) :: (hdLed hs ++ news), p.1 ≠ L' + 1 := fun p hp => Nat.ne_of_lt (Nat.lt_succ_of_lt (l1 p hp))
  k_steps
  walk_at "MINE data"
  refine Stop.mk ?_
  rename Fr g' L' _ _ => F4
  rename News g' L' _ _ => N4
  refine (conv_ok w (.ref T) (Txt.lower x) _ true _ hx).useC (Nat.le_of_ble_eq_true rfl) (Nat.le_of_ble_eq_true rfl) B F4 X N4 Tp rfl fun v4 nx4 h5 tk5 hv F5 N5 => ?_
  obtain ⟨rfl, rfl⟩ := hv
  clear F4 N4
  k_steps
  walk_at "MINE data"
  refine Stop.mk (Comp_N rfl rfl (by decide) ?_)
  k_steps
  walk_at "MINE data"
  refine Stop.mk ?_
  rename_i h7 o7 F7 N7 d7
  have z7 := (N7 (lh, W.listOf (hdRefs hs).toArray n) (by walk_at "INS")).1
  have hl7 : h7.IsList lh (hdRefs hs).toArray := ⟨_, z7, rfl, n, rfl⟩
  refine comp_listH (fun i ys nx => nx = (L' + 1, o7) :: (T, ({ cls := Value.ref 193, dict := some dT } : Obj)) :: (dT, hdDict w lh t) :: (lh, W.listOf (hdRefs hs).toArray n) :: (hdLed hs ++ news) ∧ ys = hdRefs (delHd x (hs.take i)))
    rfl (by decide) rfl rfl F7 N7 hl7 (list_ne_ns hl7 F7.ns) (by simp; omega) ?_ ?_ ?_
  · exact ⟨rfl, rfl⟩
  · intro i v ys mc nx h₃ tk₃ own C wr' E' hi z1q ha hw how hmo F₁ N₁ hn hCo hb hls
    obtain ⟨rfl, rfl⟩ := z1q
    have hin : i < hs.length := by
      have := (Array.getElem?_eq_some_iff.mp hi).1; simpa using this
    obtain rfl : v = .ref (hs[i]'hin).1 := by
      have : (hdRefs hs).toArray[i]? = some (.ref (hs[i]'hin).1) := by simp [hdRefs, hin]
      exact Option.some.inj (hi.symm.trans this)
    have hT : IsTup h₃ (hs[i]'hin).1 #[.str (hs[i]'hin).2.1.1 (hs[i]'hin).2.1.2, .str (hs[i]'hin).2.2.1 (hs[i]'hin).2.2.2] := ⟨_, (N₁ ((hs[i]'hin).1, tupObj (hs[i]'hin)) (by
      simp only [List.mem_append, List.mem_cons, List.mem_map]
      exact .inl (.inr (.inr (.inr (.inr (.inl ⟨_, List.getElem_mem hin, rfl⟩))))))).1, rfl, _, rfl⟩
    have hc1 : Heap.IsCell h₃ (L' + 1) (some (.str (Txt.lower x) tk₁)) := ⟨o7, (N₁ (L' + 1, o7) (by walk_at "INS")).1, d7⟩
    have hsplit : delHd x (hs.take (i + 1)) = delHd x (hs.take i) ++ (if (Txt.lower (hs[i]'hin).2.1.1 != Txt.lower x) = true then [hs[i]'hin] else []) := by
      rw [List.take_succ_eq_append_getElem hin, delHd, List.filter_append, List.filter_cons, List.filter_nil]; rfl
    refine wpAny_tests_one (hd_test rfl rfl rfl rfl hn hb hT hc1 rfl rfl (Nat.le_trans (hkl _ (List.getElem_mem hin)) (by decide)) fun tk9 => ?_)
    by_cases hne : (Txt.lower (hs[i]'hin).2.1.1 != Txt.lower x) = true
    · rw [if_pos hne] at hsplit ⊢
      refine name_ok (x := "kv") (s := _) rfl rfl hn hb ⟨_, _, ht_mk, F₁, N₁, ha, rfl, rfl, ?_⟩
      rw [hsplit]; simp [hdRefs]
    · rw [if_neg hne] at hsplit ⊢
      refine ⟨_, _, ht_mk, F₁, N₁, ha, rfl, rfl, ?_⟩
      rw [hsplit]; simp [hdRefs]
  · intro ys nn nx h₃ tk₃ Dl F₁ N₁ hDo z2q
    obtain ⟨rfl, rfl⟩ := z2q
    have hszr : (hdRefs hs).toArray.size = hs.length := by simp [hdRefs]
    rw [hszr, List.take_length] at N₁
    dsimp only at F₁ N₁ ⊢
    clear F7 N7
    k_steps
    walk_at "MINE data"
    dsimp only
    have kp : ∀ b o, h₃.get? b = some o → (h₃.push { cls := .type "slice", data := .fields #[.none, .none, .none] }).get? b = some o := fun b o e => Heap.get?_push_of_some _ e
    have zD := (N₁ _ (List.mem_cons_self ..)).1
    have hlh : (lh, W.listOf (hdRefs hs).toArray n) ∈ (Dl, W.listOf (hdRefs (delHd x hs)).toArray nn) :: (L' + 1, o7) :: (T, ({ cls := Value.ref 193, dict := some dT } : Obj)) :: (dT, hdDict w lh t) :: (lh, W.listOf (hdRefs hs).toArray n) :: (hdLed hs ++ news) := by simp
    have N8 : News g' L' h₃ ((lh, W.listOf (hdRefs hs).toArray n) :: (T, ({ cls := Value.ref 193, dict := some dT } : Obj)) :: (dT, hdDict w lh t) :: (hdLed hs ++ news)) := N₁.perm (by walk_at "SUB")
    have hof : ∀ p ∈ (T, ({ cls := Value.ref 193, dict := some dT } : Obj)) :: (dT, hdDict w lh t) :: (hdLed hs ++ news), p.1 ≠ lh := by
      intro p hp
      have hp' := hp
      simp only [List.mem_cons, List.mem_append] at hp'
      rcases hp' with rfl | rfl | hp' | hp'
      · exact off_cls N8 (List.mem_cons_self ..) (List.mem_cons_of_mem _ hp) (by walk_at "INS")
      · exact off_cls N8 (List.mem_cons_self ..) (List.mem_cons_of_mem _ hp) (by walk_at "INS")
      · obtain ⟨hd9, _, rfl⟩ := List.mem_map.mp hp'
        exact off_cls N8 (List.mem_cons_self ..) (List.mem_cons_of_mem _ hp) (by walk_at "INS")
      · exact hoff p hp'
    have hdl : (delHd x hs).length ≤ hs.length := List.length_filter_le _ _
    refine setAll_N (s := { s with heap := h₃.push _, toks := _ }) (l := lh) (items := (hdRefs hs).toArray) (new := (hdRefs (delHd x hs)).toArray) (F₁.kept kp) (N8.keepsAll kp) hof (Heap.IsSliceOf.new ..) ⟨_, kp _ _ zD, rfl, nn, rfl⟩ (fun e => hDo _ (by simp : (lh, W.listOf (hdRefs hs).toArray n) ∈ _) e.symm) (by simp [hdRefs]; omega) fun h' n' F9 N9 => ?_
    clear N8 hof hlh zD
    k_steps
    walk_at "MINE data"
    rename Fr h₀ L _ _ => F10
    rename News h₀ L _ _ => N10
    exact hret _ _ _ _ ⟨rfl, n', rfl⟩ F10 (N10.perm fun p hp => by
      simp only [List.mem_cons, List.mem_append, List.cons_append] at hp ⊢
      rcases hp with rfl | rfl | rfl | hp | hp
      · simp
      · simp
      · simp
      · obtain ⟨h9, hh9, rfl⟩ := List.mem_map.mp hp
        exact .inr (.inr (.inr (.inl (List.mem_map_of_mem (List.mem_filter.mp hh9).1))))
      · exact .inr (.inr (.inr (.inr hp))))
end SN10
section SN12
set_option maxHeartbeats 2000000
local macro_rules | `(tactic| walk_at "call ref") => `(tactic| walk_at "STOP")
def getHd (x : Str) (hs : List Hd) : Option Hd := hs.find? fun h => Txt.lower h.2.1.1 == Txt.lower x
def getV (x : Str) (hs : List Hd) : Value := match getHd x hs with
  | some h => .str h.2.2.1 h.2.2.2
  | none => .none
theorem get_ok (w : World) {T dT lh : Addr} {t tk : Tok} {n : Nat} {hs : List Hd} {x : Str} {news : Led} (hx : okText (Txt.lower x)) (hxl : x.length ≤ 1000) (hkl : ∀ h ∈ hs, h.2.1.1.length ≤ 1000) (hlen : hs.length ≤ 100) :
    Ctr w 335 280 (.ref 140) [.ref T, .str x tk] (tabLed w T dT lh t n hs ++ news) (fun v news' => v = getV x hs ∧ news' = tabLed w T dT lh t n hs ++ news) := by
  revert w T dT lh t tk n hs x news
  intro PK w T dT lh t tk n hs x news
  intro hx hxl hkl hlen
  intro mean mg mb gd cn cs a ccd cl outer A₀ base h₀ L m s Q E B₀ F₀ X₀ N₀ T₀ hk₀ hret
  walk_at "MINE enter"
  rename_i g' L' h1' FG F' N B X Tp
  try simp only [List.cons_append] at N
  replace F' : Fr g' L' h1' (fun y => List.lookup y [(Str.ofString "default", .none), (Str.ofString "name", .str x tk), (Str.ofString "self", .ref T)]) := F'
  k_steps
  walk_at "MINE data"
  refine Stop.mk ?_
  rename Fr g' L' _ _ => F4
  rename News g' L' _ _ => N4
  refine (conv_ok w (.ref T) (Txt.lower x) _ true _ hx).useF (Nat.le_of_ble_eq_true rfl) (Nat.le_of_ble_eq_true rfl) B F4 X N4 Tp rfl fun v4 nx4 h5 tk5 hv F5 N5 => ?_
  obtain ⟨rfl, rfl⟩ := hv
  clear F4 N4
  k_steps
  walk_at "MINE data"
  refine Stop.mk (For_N ?_)
  k_steps
  walk_at "MINE data"
  refine Stop.mk ?_
  rename_i h7 F7 N7
  have hl7 : h7.IsList lh (hdRefs hs).toArray := ⟨_, (N7 (lh, W.listOf (hdRefs hs).toArray n) (by walk_at "INS")).1, rfl, n, rfl⟩
  refine loop_listH (fun i m nx => nx = (T, ({ cls := Value.ref 193, dict := some dT } : Obj)) :: (dT, hdDict w lh t) :: (lh, W.listOf (hdRefs hs).toArray n) :: (hdLed hs ++ news) ∧ getHd x (hs.take i) = none ∧ (∃ t9, m (Str.ofString "name") = some (.str (Txt.lower x) t9)) ∧ m (Str.ofString "default") = some .none)
    rfl F7 N7 hl7 (list_ne_ns hl7 F7.ns) ?_ ?_ ?_ ?_
  · intro v hv
    have z1q : ∃ h ∈ hs, Value.ref h.1 = v := by simpa using hv
    obtain ⟨h, _, rfl⟩ := z1q
    exact GoList.tuple
  · exact ⟨rfl, rfl, ⟨_, rfl⟩, rfl⟩
  · intro i v m₁ nx h₃ tk₃ own I hi z2q hnI hIs how hmI F₁ N₁ hls
    obtain ⟨rfl, hg, ⟨t8, m1⟩, m2⟩ := z2q
    try dsimp only at F₁ N₁ hls ⊢
    have hin : i < hs.length := by
      have := (Array.getElem?_eq_some_iff.mp hi).1; simpa using this
    obtain rfl : v = .ref (hs[i]'hin).1 := by
      have : (hdRefs hs).toArray[i]? = some (.ref (hs[i]'hin).1) := by simp [hdRefs, hin]
      exact Option.some.inj (hi.symm.trans this)
    have hT : IsTup h₃ (hs[i]'hin).1 #[.str (hs[i]'hin).2.1.1 (hs[i]'hin).2.1.2, .str (hs[i]'hin).2.2.1 (hs[i]'hin).2.2.2] := ⟨_, (N₁ ((hs[i]'hin).1, tupObj (hs[i]'hin)) (by
      simp only [List.mem_append, List.mem_cons, List.mem_map]
      exact .inl (.inr (.inr (.inr (.inl ⟨_, List.getElem_mem hin, rfl⟩)))))).1, rfl, _, rfl⟩
    have hk9 : (hs[i]'hin).2.1.1.length ≤ 1000 := hkl _ (List.getElem_mem hin)
    have hget : getHd x hs = (getHd x (hs.take i)).or (getHd x (hs.drop i)) := by
      unfold getHd
      rw [← List.find?_append, List.take_append_drop]
    have hdrop : hs.drop i = (hs[i]'hin) :: hs.drop (i + 1) := List.drop_eq_getElem_cons hin
    generalize hs[i]'hin = q at hT hk9 hdrop
    simp only [List.cons_append, List.append_assoc] at N₁
    k_steps
    · have hq : (Txt.lower q.2.1.1 == Txt.lower x) = true := by assumption
      first | refine TurnN.ret ?_ | skip
      try dsimp only
      k_steps
      rename Fr h₀ L _ _ => F10
      rename News h₀ L _ _ => N10
      refine hret _ _ _ _ ⟨?_, rfl⟩ F10 (N10.perm fun p hp => ?_)
      · unfold getV
        rw [hget, hg, hdrop]
        simp [getHd, hq]
      · (revert hp; revert p; (try simp only [List.cons_append]); walk_at "SUB")
    · have hq : (Txt.lower q.2.1.1 == Txt.lower x) = false := by assumption
      rename Fr g' L' _ _ => F10
      rename News g' L' _ _ => N10
      refine .next ⟨_, (T, ({ cls := Value.ref 193, dict := some dT } : Obj)) :: (dT, hdDict w lh t) :: (lh, W.listOf (hdRefs hs).toArray n) :: (hdLed hs ++ news), ht_mk, F10, N10.perm (fun p hp => by simpa [List.append_assoc] using hp), fun p hp => by simpa using hnI p hp, rfl, ?_, ⟨t8, m1⟩, m2⟩
      rw [List.take_succ_eq_append_getElem hin]
      have hq2 : hs[i]'hin = q := by
        have := List.drop_eq_getElem_cons hin
        rw [hdrop] at this
        exact (List.cons.inj this).1.symm
      unfold getHd at hg ⊢
      rw [List.find?_append, hg, hq2]
      simp [hq]
  · intro m₁ nx h₃ tk₃ F₁ N₁ z3q
    obtain ⟨rfl, hg, ⟨t8, m1⟩, m2⟩ := z3q
    have hsz : (hdRefs hs).toArray.size = hs.length := by simp [hdRefs]
    rw [hsz, List.take_length] at hg
    dsimp only at F₁ N₁ ⊢
    k_steps
    exact hret _ _ _ _ ⟨by unfold getV; rw [hg], rfl⟩ (by k_asm) (by k_asm)
end SN12
section SN13
set_option maxHeartbeats 2000000
local macro_rules | `(tactic| walk_at "PAD0") => `(tactic| skip)
section
variable {M : Model} {A : Around} {Q : Unit → Shared → Prop} {E : Value → Shared → Prop} {s : Shared} {K : Frag} {x C L f : Addr} {h₀ : Heap} {m : Str → Option Value} {ox : Obj} {od : Option Obj} {v : Value}
theorem delItem_K (F : Fr h₀ L s.heap m) (X₀ : K.In h₀) (I : InstAt s.heap x ox C od) (hq : noSeq K C = true) (hs : findIn K (.ref C) "__delitem__" = some (some (.ref f))) (hf : isFn K (.ref f) = true)
    (h : wpAny M A (call (.ref f) [.ref x, v]) (fun _ => Q ()) E s) : wpAny M A (delItem (.ref x) v) Q E s := by
  have X := X₀.keeps F.keep
  unfold delItem sequenceKey
  refine wpAny_holding (wpAny_bind (wpAny_bind (I.type.here ?_)))
  refine wpAny_bind ((anyM_none X hq).here ?_)
  rw [if_pos (show (!false) = true from rfl)]
  exact wpAny_pure (wpAny_bind (special_fn X I hs (beq_iff_eq.mp hf) (wpAny_mono h (fun _ _ z => wpAny_pure z) fun _ _ z => z)))
end
local macro_rules | `(tactic| walk_at "call ref") => `(tactic| (k_here; refine Stop.out ?_))
theorem append_N {prog : Program} {w : World} {A : Around} {E : Value → Shared → Prop} {s : Shared} {h₀ : Heap} {L l : Addr} {m : Str → Option Value} {its : Array Value} {n : Nat} {v : Value} {rest : Led} {Q : Value → Shared → Prop} (F : Fr h₀ L s.heap m) (N : News h₀ L s.heap ((l, W.listOf its n) :: rest))
    (hne : ∀ p ∈ rest, p.1 ≠ l) (hsz : its.size ≤ sizeLine) (hQ : ∀ h', Fr h₀ L h' m → News h₀ L h' ((l, W.listOf (its.push v) (n + 1)) :: rest) → Q .none { s with heap := h' }) : wpAny (model prog w) A (call (.builtin "list.append") [.ref l, v]) Q E s := by
  have z := N (l, W.listOf its n) (List.mem_cons_self ..)
  exact append_at (hsz := hsz) z.1 fun h' hs ho' => hQ h' (F.change hs z.2.1 z.2.2) (news_set (pre := []) N (fun _ h => nomatch h) hne hs ho')
theorem set_ok (w : World) {T dT lh : Addr} {t tx ty : Tok} {n : Nat} {hs : List Hd} {x y : Str} {news : Led} (hx : okText x) (hx2 : okText (Txt.lower x)) (hy : okText y) (hxl : x.length ≤ 1000) (hkl : ∀ h ∈ hs, h.2.1.1.length ≤ 1000) (hlen : hs.length ≤ 99) (hoff : ∀ p ∈ news, p.1 ≠ lh) :
    Ctr w 333 275 (.ref 106) [.ref T, .str x tx, .str y ty] (tabLed w T dT lh t n hs ++ news) (fun v news' => v = .none ∧ ∃ n' A, (∀ p ∈ news, p.1 ≠ A) ∧ news' = tabLed w T dT lh t n' (delHd x hs ++ [(A, (x, tx), (y, ty))]) ++ news) := by
  revert w T dT lh t tx ty n hs x y news
  intro PK w T dT lh t tx ty n hs x y news
  intro hx hx2 hy hxl hkl hlen hoff
  intro mean mg mb gd cn cs a ccd cl outer A₀ base h₀ L m s Q E B₀ F₀ X₀ N₀ T₀ hk₀ hret
  walk_at "MINE enter"
  rename_i g' L' h1' FG F' N B X Tp
  try simp only [List.cons_append] at N
  replace F' : Fr g' L' h1' (fun y' => List.lookup y' [(Str.ofString "val", .str y ty), (Str.ofString "name", .str x tx), (Str.ofString "self", .ref T)]) := F'
  k_steps
  walk_at "MINE data"
  refine delItem_K (by k_asm) (by k_asm) (by k_inst) (by k_is) (by k_is) (by k_is) ?_
  rename Fr g' L' _ _ => F4
  rename News g' L' _ _ => N4
  have hofN : ∀ p ∈ news, p.1 ≠ lh := hoff
  refine (del_ok w (T := T) (dT := dT) (lh := lh) (t := t) (n := n) (hs := hs) (x := x) (tk := tx) (news := news) hx2 hxl hkl (by omega) hoff).useF (Nat.le_of_ble_eq_true rfl) (Nat.le_of_ble_eq_true rfl) B F4 X N4 Tp rfl fun v4 nx4 h5 tk5 hv F5 N5 => ?_
  obtain ⟨rfl, n5, rfl⟩ := hv
  clear F4 N4
  have hdl : (delHd x hs).length ≤ hs.length := List.length_filter_le _ _
  generalize hgh : delHd x hs = hs5 at *
  k_steps
  walk_at "MINE data"
  refine Stop.mk ?_
  rename Fr g' L' _ _ => F4
  rename News g' L' _ _ => N4
  refine (conv_ok w (.ref T) x _ true _ hx).useF (Nat.le_of_ble_eq_true rfl) (Nat.le_of_ble_eq_true rfl) B F4 X N4 Tp rfl fun v4 nx4 h6 tk6 hv F6 N6 => ?_
  obtain ⟨rfl, rfl⟩ := hv
  clear F4 N4
  k_steps
  walk_at "MINE data"
  refine Stop.mk ?_
  rename Fr g' L' _ _ => F4
  rename News g' L' _ _ => N4
  refine (conv_ok w (.ref T) y _ false _ hy).useF (Nat.le_of_ble_eq_true rfl) (Nat.le_of_ble_eq_true rfl) B F4 X N4 Tp rfl fun v4 nx4 h7 tk7 hv F7 N7 => ?_
  obtain ⟨rfl, rfl⟩ := hv
  clear F4 N4
  have hl7 : h7.IsList lh (hdRefs hs5).toArray := ⟨_, (N7 (lh, W.listOf (hdRefs hs5).toArray n5) (by simp [tabLed])).1, rfl, n5, rfl⟩
  k_steps
  walk_at "MINE data"
  rename_i D8 h8 F8 N8 l8
  simp only [tabLed, List.cons_append] at N8 l8
  have N9 : News g' L' h8 ((lh, W.listOf (hdRefs hs5).toArray n5) :: (T, ({ cls := Value.ref 193, dict := some dT } : Obj)) :: (dT, hdDict w lh t) :: (D8, tupObj (D8, (x, tx), (y, ty))) :: (hdLed hs5 ++ news)) := N8.perm (fun p hp => by (revert hp; revert p; (try simp only [tupObj]); walk_at "SUB"))
  have hof : ∀ p ∈ (T, ({ cls := Value.ref 193, dict := some dT } : Obj)) :: (dT, hdDict w lh t) :: (D8, tupObj (D8, (x, tx), (y, ty))) :: (hdLed hs5 ++ news), p.1 ≠ lh := by
    intro p hp
    have hp' := hp
    simp only [List.mem_cons, List.mem_append] at hp'
    rcases hp' with rfl | rfl | rfl | hp' | hp'
    · exact off_cls N9 (List.mem_cons_self ..) (List.mem_cons_of_mem _ hp) (by walk_at "INS")
    · exact off_cls N9 (List.mem_cons_self ..) (List.mem_cons_of_mem _ hp) (by walk_at "INS")
    · exact fun e => Nat.lt_irrefl _ (e ▸ l8 (lh, W.listOf (hdRefs hs5).toArray n5) (by walk_at "INS"))
    · obtain ⟨hd9, _, rfl⟩ := List.mem_map.mp hp'
      exact off_cls N9 (List.mem_cons_self ..) (List.mem_cons_of_mem _ hp) (by walk_at "INS")
    · exact hofN p hp'
  have hoA : ∀ p ∈ news, p.1 ≠ D8 := fun p hp => Nat.ne_of_lt (l8 p (by simp [hp]))
  refine append_N F8 N9 hof (by simp [hdRefs, sizeLine]; omega) fun h' F9 N10 => ?_
  clear N8 hof l8 N9
  k_steps
  walk_at "MINE data"
  rename Fr h₀ L _ _ => F10
  rename News h₀ L _ _ => N11
  refine hret _ _ _ _ ⟨rfl, n5 + 1, D8, hoA, rfl⟩ F10 (N11.perm fun p hp => ?_)
  have e9 : (hdRefs hs5).toArray.push (.ref D8) = (hdRefs (hs5 ++ [(D8, (x, tx), y, ty)])).toArray := by simp [hdRefs]
  simp only [tabLed, hdLed, ← e9, List.mem_cons, List.map_append, List.mem_append, List.cons_append, List.map_cons, List.map_nil, List.not_mem_nil, or_false] at hp ⊢
  grind
end SN13
section SN14
set_option maxHeartbeats 2000000
local macro_rules | `(tactic| walk_at "call ref") => `(tactic| walk_at "STOP")
theorem item_ok (w : World) {T dT lh : Addr} {t tk : Tok} {n : Nat} {hs : List Hd} {x : Str} {news : Led} (hx : okText (Txt.lower x)) (hxl : x.length ≤ 1000) (hkl : ∀ h ∈ hs, h.2.1.1.length ≤ 1000) (hlen : hs.length ≤ 100) :
    Ctr w 333 275 (.ref 118) [.ref T, .str x tk] (tabLed w T dT lh t n hs ++ news) (fun v news' => v = getV x hs ∧ news' = tabLed w T dT lh t n hs ++ news) := by
  revert w T dT lh t tk n hs x news
  intro PK w T dT lh t tk n hs x news
  intro hx hxl hkl hlen
  intro mean mg mb gd cn cs a ccd cl outer A₀ base h₀ L m s Q E B₀ F₀ X₀ N₀ T₀ hk₀ hret
  walk_at "MINE enter"
  rename_i g' L' h1' FG F' N B X Tp
  try simp only [List.cons_append] at N
  replace F' : Fr g' L' h1' (fun y => List.lookup y [(Str.ofString "name", .str x tk), (Str.ofString "self", .ref T)]) := F'
  k_steps
  walk_at "MINE data"
  refine Stop.mk ?_
  rename Fr g' L' _ _ => F4
  rename News g' L' _ _ => N4
  refine (get_ok w (T := T) (dT := dT) (lh := lh) (t := t) (tk := tk) (n := n) (hs := hs) (x := x) (news := news) hx hxl hkl hlen).useF (Nat.le_of_ble_eq_true rfl) (Nat.le_of_ble_eq_true rfl) B F4 X N4 Tp rfl fun v4 nx4 h5 tk5 hv F5 N5 => ?_
  obtain ⟨rfl, rfl⟩ := hv
  clear F4 N4
  k_steps
  walk_at "MINE data"
  exact hret _ _ _ _ ⟨rfl, rfl⟩ (by k_asm) (by k_asm)
theorem has_ok (w : World) {T dT lh : Addr} {t tk : Tok} {n : Nat} {hs : List Hd} {x : Str} {news : Led} (hx : okText (Txt.lower x)) (hxl : x.length ≤ 1000) (hkl : ∀ h ∈ hs, h.2.1.1.length ≤ 1000) (hlen : hs.length ≤ 100) :
    Ctr w 333 275 (.ref 125) [.ref T, .str x tk] (tabLed w T dT lh t n hs ++ news) (fun v news' => v = .bool (getHd x hs).isSome ∧ news' = tabLed w T dT lh t n hs ++ news) := by
  revert w T dT lh t tk n hs x news
  intro PK w T dT lh t tk n hs x news
  intro hx hxl hkl hlen
  intro mean mg mb gd cn cs a ccd cl outer A₀ base h₀ L m s Q E B₀ F₀ X₀ N₀ T₀ hk₀ hret
  walk_at "MINE enter"
  rename_i g' L' h1' FG F' N B X Tp
  try simp only [List.cons_append] at N
  replace F' : Fr g' L' h1' (fun y => List.lookup y [(Str.ofString "name", .str x tk), (Str.ofString "self", .ref T)]) := F'
  k_steps
  walk_at "MINE data"
  refine Stop.mk ?_
  rename Fr g' L' _ _ => F4
  rename News g' L' _ _ => N4
  refine (get_ok w (T := T) (dT := dT) (lh := lh) (t := t) (tk := tk) (n := n) (hs := hs) (x := x) (news := news) hx hxl hkl hlen).useF (Nat.le_of_ble_eq_true rfl) (Nat.le_of_ble_eq_true rfl) B F4 X N4 Tp rfl fun v4 nx4 h5 tk5 hv F5 N5 => ?_
  obtain ⟨rfl, rfl⟩ := hv
  clear F4 N4
  unfold getV
  cases hg : getHd x hs with
  | none =>
    dsimp only
    k_steps
    walk_at "MINE data"
    exact hret _ _ _ _ ⟨by rw [hg]; rfl, rfl⟩ (by k_asm) (by k_asm)
  | some h =>
    dsimp only
    k_steps
    walk_at "MINE data"
    exact hret _ _ _ _ ⟨by rw [hg]; rfl, rfl⟩ (by k_asm) (by k_asm)
theorem slicePick_whole (its : Array Value) : slicePick its none none none = its := by
  rw [kmk_pick_nat (a := 0) (b := its.size) its (by simp [sliceBounds])]
  show (List.take its.size its.toList).toArray = its
  rw [← Array.length_toList, List.take_length]
theorem items_ok (w : World) {T dT lh : Addr} {t : Tok} {n : Nat} {hs : List Hd} {news : Led} (hlen : hs.length ≤ 100) :
    Ctr w 333 275 (.ref 157) [.ref T] (tabLed w T dT lh t n hs ++ news) (fun v news' => ∃ l n', v = .ref l ∧ news' = (l, W.listOf (hdRefs hs).toArray n') :: (tabLed w T dT lh t n hs ++ news)) := by
  revert w T dT lh t n hs news
  intro PK w T dT lh t n hs news
  intro hlen
  intro mean mg mb gd cn cs a ccd cl outer A₀ base h₀ L m s Q E B₀ F₀ X₀ N₀ T₀ hk₀ hret
  walk_at "MINE enter"
  rename_i g' L' h1' FG F' N B X Tp
  try simp only [List.cons_append] at N
  replace F' : Fr g' L' h1' (fun y => List.lookup y [(Str.ofString "self", .ref T)]) := F'
  have hl7 : h1'.IsList lh (hdRefs hs).toArray := ⟨_, (N (lh, W.listOf (hdRefs hs).toArray n) (by simp [tabLed])).1, rfl, n, rfl⟩
  k_steps
  walk_at "MINE data"
  rw [slicePick_whole] at *
  rename Fr h₀ L _ _ => F10
  rename News h₀ L _ _ => N10
  exact hret _ _ _ _ ⟨_, 0, rfl, rfl⟩ F10 N10
end SN14
section SN17
set_option maxHeartbeats 2000000
local macro_rules | `(tactic| walk_at "eval ListComp") => `(tactic| walk_at "STOP")
local macro_rules | `(tactic| walk_at "PAD0") => `(tactic| skip)
theorem keys_ok (w : World) {T dT lh : Addr} {t : Tok} {n : Nat} {hs : List Hd} {news : Led} (hlen : hs.length ≤ 100) (hoff : ∀ p ∈ news, p.1 ≠ lh) :
    Ctr w 333 275 (.ref 145) [.ref T] (tabLed w T dT lh t n hs ++ news) (fun v news' => ∃ l n', v = .ref l ∧ news' = (l, W.listOf (hs.map fun h => Value.str h.2.1.1 h.2.1.2).toArray n') :: (tabLed w T dT lh t n hs ++ news)) := by
  revert w T dT lh t n hs news
  intro PK w T dT lh t n hs news
  intro hlen hoff
  intro mean mg mb gd cn cs a ccd cl outer A₀ base h₀ L m s Q E B₀ F₀ X₀ N₀ T₀ hk₀ hret
  walk_at "MINE enter"
  rename_i g' L' h1' FG F' N B X Tp
  try simp only [List.cons_append] at N
  replace F' : Fr g' L' h1' (fun y => List.lookup y [(Str.ofString "self", .ref T)]) := F'
  have hl7 : h1'.IsList lh (hdRefs hs).toArray := ⟨_, (N (lh, W.listOf (hdRefs hs).toArray n) (by simp [tabLed])).1, rfl, n, rfl⟩
  k_steps
  walk_at "MINE data"
  refine Stop.mk (Comp_N rfl rfl (by decide) ?_)
  k_steps
  walk_at "MINE data"
  refine Stop.mk ?_
  let f : Hd → Addr × Value × Value := fun h => (h.1, .str h.2.1.1 h.2.1.2, .str h.2.2.1 h.2.2.2)
  have e7 : (hdRefs hs).toArray = ((hs.map f).map fun p => Value.ref p.1).toArray := by rw [List.map_map]; rfl
  have hT : ∀ p ∈ hs.map f, h1'.IsTuple p.1 #[p.2.1, p.2.2] := by
    intro p hp
    obtain ⟨q, hq, rfl⟩ := List.mem_map.mp hp
    exact ⟨_, (N (q.1, tupObj q) (by
      simp only [tabLed, List.cons_append, List.mem_append, List.mem_cons]
      exact .inr (.inr (.inr (.inl (List.mem_map_of_mem hq)))))).1, rfl, _, rfl⟩
  have hTL : ∀ p ∈ hs.map f, p.1 ≠ L' := by
    intro p hp
    obtain ⟨q, hq, rfl⟩ := List.mem_map.mp hp
    exact (N (q.1, tupObj q) (by
      simp only [tabLed, List.cons_append, List.mem_append, List.mem_cons]
      exact .inr (.inr (.inr (.inl (List.mem_map_of_mem hq)))))).2.1
  refine comp_pairs restHT (fun i ys nx => nx = tabLed w T dT lh t n hs ++ news ∧ ys = (hs.take i).map fun h => Value.str h.2.1.1 h.2.1.2)
    rfl (by decide) rfl rfl rfl (by decide) F' N (e7 ▸ hl7) hT hTL (list_ne_ns hl7 F'.ns) (by simp; omega) ⟨rfl, rfl⟩ ?_ ?_
  · intro i p ys mc nx s₁ own C wr' E' hi z1q ha hw how hmo hr F₁ N₁ hn hCo hb1 hb2
    obtain ⟨rfl, rfl⟩ := z1q
    have hin : i < hs.length := by
      have := (List.getElem?_eq_some_iff.mp hi).1; simpa using this
    obtain rfl : f (hs[i]'hin) = p := by
      have : (hs.map f)[i]? = some (f (hs[i]'hin)) := by simp [hin]
      exact Option.some.inj (this.symm.trans hi)
    refine wpAny_tests_nil ?_
    rw [if_pos rfl]
    refine name_ok (x := "k") rfl rfl hn hb1 ?_
    refine ⟨_, _, hr, F₁, N₁, ha, rfl, rfl, ?_⟩
    rw [List.take_succ_eq_append_getElem hin, List.map_append]
    rfl
  · intro ys nn nx s₁ Dl hr F₁ N₁ hDo z2q
    obtain ⟨rfl, rfl⟩ := z2q
    obtain ⟨h₃, tk₃, rfl⟩ := hr
    have e8 : (hs.map f).length = hs.length := by simp
    rw [e8, List.take_length] at N₁
    dsimp only at F₁ N₁ ⊢
    k_steps
    walk_at "MINE data"
    exact hret _ _ _ _ ⟨_, _, rfl, rfl⟩ (by k_asm) (by k_asm)
end SN17
section SN18
set_option maxHeartbeats 8000000
local macro_rules | `(tactic| walk_at "eval ListComp") => `(tactic| walk_at "STOP")
local macro_rules | `(tactic| walk_at "subscriptTail Name Slice ref ref") => `(tactic| walk_at "STOP")
local macro_rules | `(tactic| walk_at "subscriptTail Name Name ref int") => `(tactic| walk_at "STOP")
local macro_rules | `(tactic| walk_at "subscriptTail Name Subscript ref int") => `(tactic| walk_at "STOP")
local macro_rules | `(tactic| walk_at "call ref") => `(tactic| (k_here; (first | (fail_if_success (with_reducible show wpAny _ _ (call (Value.ref 52) _ _) _ _ _)) | skip); refine Stop.out ?_))
theorem slice_N {prog : Program} {w : World} {A : Around} {E : Value → Shared → Prop} {s : Shared} {g h : Heap} {L l sl : Addr} {m : Str → Option Value} {news : Led} {items out : Array Value} {lo hi st : Option Int} {vl vu vs : Value} {value : Expr} {e1 e2 e3 : Option Expr} {p : Pos} {Q : Value → Shared → Prop} (F : Fr g L h m) (N : News g L h news) (hk : ∀ b o, h.get? b = some o → s.heap.get? b = some o)
    (hl : h.IsList l items) (hs : s.heap.IsSliceOf sl vl vu vs) (pl : IsPart vl lo) (pu : IsPart vu hi) (ps : IsPart vs st) (h0 : st ≠ some 0) (e : slicePick items lo hi st = out) (hsz : items.size ≤ sizeLine)
    (hQ : ∀ D h', (∀ b o, h.get? b = some o → h'.get? b = some o) → Fr g L h' m → News g L h' ((D, W.listOf out 0) :: news) → (∀ p ∈ news, p.1 < D) → Q (.ref D) { s with heap := h' }) : wpAny (model prog w) A (subscriptTail value (.Slice e1 e2 e3 p) (.ref l) (.ref sl)) Q E s := by
  have hl' : s.heap.IsList l items := hl.at fun o e => hk l o e
  refine tail_slice (T := "list") (lo' := value) list_getitem_lookup hl'.typeIs ?_
  refine wpAny_getItem_list_slice hl' hs pl pu ps h0 ?_ hsz
  rw [e]
  have hk2 : ∀ b o, h.get? b = some o → (s.heap.push { cls := .type "list", data := .seq out }).get? b = some o := fun b o e => Heap.get?_push_of_some _ (hk b o e)
  have lt : ∀ {b o}, h.get? b = some o → b < s.heap.objs.size := fun e => Heap.lt_size (hk _ _ e)
  refine hQ s.heap.objs.size _ hk2 (F.kept hk2) (news_add F N hk2 ?_ (Heap.get?_push_size _ rfl)) fun p hp => lt (N p hp).1
  cases e9 : h.get? s.heap.objs.size with
  | none => rfl
  | some o => exact absurd (lt e9) (Nat.lt_irrefl _)
theorem slice_tail (v0 v1 v2 v3 v4 : Value) : slicePick #[v0, v1, v2, v3, v4] (some 1) none none = #[v1, v2, v3, v4] := by kernel_rfl
theorem tup2 {prog : Program} {w : World} {A : Around} {E : Value → Shared → Prop} {s : Shared} {env : Env} {x1 x2 : Str} {p1 p2 : Pos} {k : Nat} {pos : Pos} {va vb : Value} {Q : Value → Shared → Prop}
    (h1 : ∀ Q : Value → Shared → Prop, Q va s → wpAny (model prog w) A (eval (.Name x1 p1) env) Q E s) (h2 : ∀ Q : Value → Shared → Prop, Q vb s → wpAny (model prog w) A (eval (.Name x2 p2) env) Q E s)
    (hQ : Q (.ref s.heap.objs.size) { s with heap := s.heap.push { cls := .type "tuple", data := .seq #[va, vb] } }) : wpAny (model prog w) A (eval (.Tuple [.Name x1 p1, .Name x2 p2] k pos) env) Q E s := by
  refine wpAny_Tuple ?_
  refine spliced_more ?_
  refine h1 _ ?_
  refine spliced_more ?_
  refine h2 _ ?_
  refine spliced_none ?_
  exact ⟨by simp [sizeLine], hQ⟩
def oldNames : List Str := [Str.ofString "Bab", Str.ofString "Ba", Str.ofString "Ab", Str.ofString "B", Str.ofString "b", Str.ofString "ab", Str.ofString "ba", Str.ofString "bab"]
theorem slice_down (v0 v1 v2 v3 v4 : Value) : slicePick #[v0, v1, v2, v3, v4] none (some 0) (some (-1)) = #[v4, v3, v2, v1] := by kernel_rfl
abbrev NAMES : List Str := [Str.ofString "a", Str.ofString "b", Str.ofString "ab", Str.ofString "ba", Str.ofString "bab"]
def nameK (k : Nat) : Str := NAMES.getD k ⟨#[]⟩
structure CarryFit (CH : Nat → List Str) (p g : Nat → Nat) (mk : Str) : Prop where
  par : ∀ k, k < 5 → p k < 5
  img : ∀ k, k < 5 → g k < 5
  fit : ∀ k, 0 < k → k < 5 → wayFit (CH (g k)) (CH (g (p k))) mk = true ∧ okText (wayZ (CH (g k)) (CH (g (p k))) mk)
  len : ∀ k, k < 5 → (CH k).length ≤ 100 ∧ ∀ z ∈ CH k, z.length ≤ 100
def wayG (CH : Nat → List Str) (p g : Nat → Nat) (mk : Str) (k : Nat) : Str := wayZ (CH (g k)) (CH (g (p k))) mk
def carriedZ (CH : Nat → List Str) (p g : Nat → Nat) (mk : Str) : List (Str × Str) :=
  [(Str.ofString "B", wayG CH p g mk 1), (Str.ofString "ab", wayG CH p g mk 2), (Str.ofString "BA", wayG CH p g mk 3), (Str.ofString "bab", wayG CH p g mk 4)]
def setP (x y : Str) (ps : List (Str × Str)) : List (Str × Str) := (ps.filter fun q => Txt.lower q.1 != Txt.lower x) ++ [(x, y)]
def tabName (k : Nat) : Str := if k % 2 = 1 then Txt.upper (nameK k) else nameK k
def stage (CH : Nat → List Str) (p g : Nat → Nat) (mk : Str) : Nat → List (Str × Str)
  | 0 => oldNames.map fun z => (z, mk)
  | i + 1 => setP (tabName (i + 1)) (wayG CH p g mk (i + 1)) (stage CH p g mk i)
theorem stage_len (CH : Nat → List Str) (p g : Nat → Nat) (mk : Str) : ∀ i, (stage CH p g mk i).length ≤ 8 + i
  | 0 => Nat.le_refl _
  | i + 1 => by
    have := stage_len CH p g mk i
    simp only [stage, setP, List.length_append, List.length_cons, List.length_nil]
    have := List.length_filter_le (fun q : Str × Str => Txt.lower q.1 != Txt.lower (tabName (i + 1))) (stage CH p g mk i)
    omega
theorem stage_last (CH : Nat → List Str) (p g : Nat → Nat) (mk : Str) : stage CH p g mk 4 = carriedZ CH p g mk := by kernel_rfl
theorem stage_keys (CH : Nat → List Str) (p g : Nat → Nat) (mk : Str) : ∀ i, i ≤ 4 → ∀ q ∈ stage CH p g mk i, q.1.length ≤ 1000
  | 0, _, q, hq => by
    obtain ⟨z, hz, rfl⟩ := List.mem_map.mp hq
    have : ∀ z ∈ oldNames, z.length ≤ 1000 := by decide +kernel
    exact this z hz
  | i + 1, hi, q, hq => by
    simp only [stage, setP, List.mem_append, List.mem_filter, List.mem_cons, List.not_mem_nil, or_false] at hq
    rcases hq with hq | rfl
    · exact stage_keys CH p g mk i (by omega) q hq.1
    · have : ∀ k < 6, (tabName k).length ≤ 1000 := by decide +kernel
      exact this (i + 1) (by omega)
theorem del_pairs (x : Str) (hs : List Hd) : ((delHd x hs).map fun h => (h.2.1.1, h.2.2.1)) = (hs.map fun h => (h.2.1.1, h.2.2.1)).filter fun q => Txt.lower q.1 != Txt.lower x := by
  unfold delHd
  rw [List.filter_map]
  rfl
theorem off_tab {w : World} {T dT lh I A : Addr} {t : Tok} {n n' : Nat} {hs : List Hd} {x : Str} {b c : Str × Tok} {rest : Led} (h : ∀ p ∈ tabLed w T dT lh t n hs ++ rest, p.1 ≠ I) (hA : A ≠ I) : ∀ p ∈ tabLed w T dT lh t n' (delHd x hs ++ [(A, b, c)]) ++ rest, p.1 ∉ [I] := by
  intro p hp hI
  have e : p.1 = I := by simpa using hI
  simp only [tabLed, hdLed, List.map_append, List.map_cons, List.map_nil, List.cons_append, List.mem_cons, List.mem_append, List.not_mem_nil, or_false] at hp
  have z : ∀ q ∈ tabLed w T dT lh t n hs ++ rest, q.1 = I → False := fun q hq e => h q hq e
  rcases hp with rfl | rfl | rfl | (hp | rfl) | hp
  · exact z (T, _) (List.mem_append_left _ (List.mem_cons_self ..)) e
  · exact z (dT, _) (List.mem_append_left _ (List.mem_cons_of_mem _ (List.mem_cons_self ..))) e
  · exact z (lh, _) (List.mem_append_left _ (List.mem_cons_of_mem _ (List.mem_cons_of_mem _ (List.mem_cons_self ..)))) e
  · obtain ⟨q, hq, rfl⟩ := List.mem_map.mp hp
    exact z _ (List.mem_append_left _ (List.mem_cons_of_mem _ (List.mem_cons_of_mem _ (List.mem_cons_of_mem _ (List.mem_map_of_mem (List.mem_filter.mp hq).1))))) e
  · exact hA e
  · exact z p (List.mem_append_right _ hp) e
theorem fr_step {x : Str} {news : Led} {hs : List Hd} {A : Addr} {b c : Str × Tok} (h : ∀ q ∈ news, ∀ h ∈ hs, h.1 ≠ q.1) (hA : ∀ q ∈ news, q.1 ≠ A) : ∀ q ∈ news, ∀ h ∈ delHd x hs ++ [(A, b, c)], h.1 ≠ q.1 := by
  intro q hq h9 hh
  rcases List.mem_append.mp hh with hh | hh
  · exact h q hq h9 (List.mem_filter.mp hh).1
  · obtain rfl : h9 = _ := by simpa using hh
    exact Ne.symm (hA q hq)
theorem carried_ok (w : World) {ln lp C li : Addr} {fc : Str → Option Value} {ns gs : List (Str × Tok)} {ks : List (Nat × Tok)} {CH : Nat → List Str} {p g : Nat → Nat} {mk : Str} {t : Tok} {news : Led}
    (hfit : CarryFit CH p g mk) (h1 : Sure news fun h => h.IsList ln (strValues ns).toArray) (h1n : ns.map (·.1) = NAMES) (h2' : Sure news fun h => h.IsList lp (intsOf ks)) (h2n : ks.map (·.1) = (List.range 5).map p)
    (hC : Sure news fun h => h.MapOf (PySem.strKind Challenge.pw_wv0033_01 w) C fc) (hch : ∀ i < 5, ∃ l cs, fc (nameK i) = some (.ref l) ∧ (Sure news fun h => h.IsList l (strValues cs).toArray) ∧ cs.map (·.1) = CH i)
    (h3' : Sure news fun h => h.IsList li (strValues gs).toArray) (h3n : gs.map (·.1) = (List.range 5).map fun i => nameK (g i)) (hmk : mk.length ≤ 100) (hmk0 : (mk.length == 0) = false) (hmk2 : okText mk) :
    Ctr w 310 240 (.ref 273) [.ref ln, .ref lp, .ref C, .ref li, .str mk t] news (fun v news' => ∃ T dT lh t9 n hs, v = .ref T ∧ news' = tabLed w T dT lh t9 n hs ++ news ∧ (hs.map fun h => (h.2.1.1, h.2.2.1)) = carriedZ CH p g mk ∧ ∀ q ∈ news, q.1 ≠ T ∧ q.1 ≠ dT ∧ q.1 ≠ lh ∧ ∀ h ∈ hs, h.1 ≠ q.1) := by
  revert w ln lp C li fc ns gs ks CH p g mk t news
  intro PK w ln lp C li fc ns gs ks CH p g mk t news
  intro hfit h1 h1n h2' h2n hC hch h3' h3n hmk hmk0 hmk2
  intro mean mg mb gd cn cs a ccd cl outer A₀ base h₀ L m s Q E B₀ F₀ X₀ N₀ T₀ hk₀ hret
  walk_at "MINE enter"
  rename_i g' L' hh tk₁ FG F' B X Tp l1 o1 d1 N
  try simp only [List.cons_append, List.nil_append] at N
  have e1 : o1.data = .cell (some (.str mk t)) := d1.trans (by kernel_rfl)
  clear d1
  replace F' : Fr g' L' hh (fun y => if y = Str.ofString "images" then some (.ref li) else if y = Str.ofString "chains" then some (.ref C) else if y = Str.ofString "parents" then some (.ref lp) else if y = Str.ofString "names" then some (.ref ln) else none) := F'
  have z1q : ∃ t0 t1 t2 t3 t4, ns = [(nameK 0, t0), (nameK 1, t1), (nameK 2, t2), (nameK 3, t3), (nameK 4, t4)] := prs5 h1n
  obtain ⟨t0, t1, t2, t3, t4, rfl⟩ := z1q
  have itG : ∀ j < 5, ∃ u, (strValues gs).toArray[j]? = some (.str (nameK (g j)) u) := by
    intro j hj
    have hl : gs.length = 5 := by simpa using congrArg List.length h3n
    have e : (gs.map (·.1))[j]? = some (nameK (g j)) := by rw [h3n]; simp [hj]
    have hj' : j < gs.length := by omega
    refine ⟨(gs[j]'hj').2, ?_⟩
    have e2 : (gs[j]'hj').1 = nameK (g j) := by simpa [hj'] using e
    rw [item_str hj', e2]
  have itP : ∀ j < 5, ∃ u, (intsOf ks)[j]? = some (.int (p j : Int) u) := by
    intro j hj
    have hl : ks.length = 5 := by simpa using congrArg List.length h2n
    have e : (ks.map (·.1))[j]? = some (p j) := by rw [h2n]; simp [hj]
    have hj' : j < ks.length := by omega
    refine ⟨(ks[j]'hj').2, ?_⟩
    have e2 : (ks[j]'hj').1 = p j := by simpa [hj'] using e
    rw [item_int hj', e2]
  have lns := h1 hh fun p hp => (N p (List.mem_cons_of_mem _ hp)).1
  k_steps
  walk_at "MINE data"
  refine Stop.mk (slice_N (lo := none) (hi := some 0) (st := some (-1)) F' N (fun b o e => Heap.get?_push_of_some _ e) lns (Heap.IsSliceOf.new ..) .none (.int _ _) (.int _ _) (by decide) (slice_down _ _ _ _ _) (by simp [strValues, sizeLine]) ?_)
  intro D h4' hk4 F5 N5 lD
  dsimp only
  clear F' N lns
  k_steps
  walk_at "MINE data"
  refine SC.join (texts := [nameK 4, nameK 3, nameK 2, nameK 1]) (⟨_, (N5 _ (List.mem_cons_self ..)).1, rfl, _, rfl⟩ : h4'.IsList D (strValues [(nameK 4, t4), (nameK 3, t3), (nameK 2, t2), (nameK 1, t1)]).toArray) rfl (by decide +kernel) fun tj kj => ?_
  rw [show Txt.join (Str.ofString "  ") [nameK 4, nameK 3, nameK 2, nameK 1] = Str.ofString "bab  ba  ab  b" by decide +kernel]
  k_steps
  walk_at "MINE data"
  refine Stop.mk ?_
  refine (cap0_ok w (x := Str.ofString "\t" ++ Str.ofString "bab  ba  ab  b" ++ Str.ofString " ") (by decide +kernel) (by decide +kernel)).useC (Nat.le_of_ble_eq_true rfl) (Nat.le_of_ble_eq_true rfl) B F5 X N5 Tp rfl fun v6 nx6 h6 tk6 hv F6 N6 => ?_
  obtain ⟨⟨kc, rfl⟩, rfl⟩ := hv
  rw [show capZ0 (Str.ofString "\t" ++ Str.ofString "bab  ba  ab  b" ++ Str.ofString " ") = Str.ofString "Bab Ba Ab B" by decide +kernel]
  clear F5 N5
  k_steps
  walk_at "MINE data"
  refine Stop.mk (Comp_N rfl rfl (by decide) ?_)
  k_steps
  walk_at "MINE data"
  rename Fr g' L' _ _ => F7
  rename News g' L' _ _ => N7
  refine Stop.mk (slice_N (lo := some 1) (hi := none) (st := none) F7 N7 (fun b o e => Heap.get?_push_of_some _ e) (h1 _ fun p hp => (N7 p (List.mem_cons_of_mem _ (List.mem_cons_of_mem _ (List.mem_cons_of_mem _ hp)))).1) (Heap.IsSliceOf.new ..) (.int _ _) .none .none (by decide) (slice_tail _ _ _ _ _) (by simp [strValues, sizeLine]) ?_)
  intro D8 h8' hk8 F8 N8 lD8
  dsimp only
  clear F7 N7
  k_steps
  walk_at "MINE data"
  refine Stop.mk ?_
  rename_i u3 u2 u1 u0 kE y0 y1 y2 y3 ya h7' D9 h9 F9 N9 l9
  clear y0 y1 y2 y3 ya kE
  have z2q : ∃ es : List (Str × Tok), h9.IsList D9 (strValues es).toArray ∧ es.map (·.1) = oldNames :=
    ⟨[(Str.ofString "Bab", u3), (Str.ofString "Ba", u2), (Str.ofString "Ab", u1), (Str.ofString "B", u0), (nameK 1, t1), (nameK 2, t2), (nameK 3, t3), (nameK 4, t4)], ⟨_, (N9 _ (List.mem_cons_self ..)).1, rfl, _, rfl⟩, rfl⟩
  obtain ⟨es, hes, hem⟩ := z2q
  have N8' : News g' L' h9 ((L' + 1, o1) :: news) := N9.perm (by walk_at "SUB")
  have hel : es.length = 8 := by simpa [oldNames] using congrArg List.length hem
  clear N9 l9
  refine comp_listH (fun i ys nx => ∃ hs : List Hd, nx = hdLed hs ++ ((L' + 1, o1) :: news) ∧ ys = hdRefs hs ∧ (hs.map fun h => (h.2.1.1, h.2.2.1)) = ((oldNames.take i).map fun z => (z, mk)) ∧ ∀ q ∈ news, ∀ h ∈ hs, h.1 ≠ q.1)
    rfl (by decide) rfl rfl F9 N8' hes (list_ne_ns hes F9.ns) (by simp [strValues, hel]) ⟨[], rfl, rfl, rfl, fun _ _ _ h => nomatch h⟩ ?_ ?_
  · intro i v ys mc nx h₃ tk₃ own C9 wr' E' hi z3q ha hw how hmo F₁ N₁ hn hCo hb hls
    obtain ⟨hs, rfl, rfl, hpr, hfr⟩ := z3q
    have hin : i < es.length := by
      have := (Array.getElem?_eq_some_iff.mp hi).1; simpa [strValues] using this
    obtain rfl : .str (es[i]'hin).1 (es[i]'hin).2 = v := Option.some.inj ((item_str hin).symm.trans hi)
    have hc1 : Heap.IsCell h₃ (L' + 1) (some (.str mk t)) := ⟨o1, (N₁ (L' + 1, o1) (by walk_at "INS")).1, e1⟩
    refine wpAny_tests_nil ?_
    rw [if_pos rfl]
    refine tup2 (va := .str (es[i]'hin).1 (es[i]'hin).2) (vb := .str mk t) (fun Q hQ => name_ok (x := "name") rfl rfl hn hb hQ) (fun Q hQ => name_cell (x := "mark") rfl rfl rfl hc1 hQ) ?_
    have N₂ := N₁.push F₁ (o := { cls := .type "tuple", data := .seq #[.str (es[i]'hin).1 (es[i]'hin).2, .str mk t] })
    refine ⟨_, hdLed (hs ++ [(h₃.objs.size, ((es[i]'hin).1, (es[i]'hin).2), (mk, t))]) ++ ((L' + 1, o1) :: news), ht_mk, F₁.push _, N₂.perm (fun p hp => ?_), ?_, rfl, _, rfl, ?_, ?_, ?_⟩
    · (revert hp; revert p; (try simp only [hdLed, List.map_append, List.map_cons, List.map_nil]); walk_at "SUB")
    · intro p hp hb9
      simp only [hdLed, List.mem_append, List.mem_cons, List.map_append, List.map_cons, List.map_nil, List.not_mem_nil, or_false] at hp
      rcases hp with (hp | hp) | hp | hp
      · exact ha p (by simp only [hdLed, List.mem_append, List.mem_cons]; exact .inl hp) hb9
      · obtain ⟨o, ho⟩ := hmo _ hb9
        have := Heap.lt_size (N₁ _ (List.mem_append_right _ ho)).1
        rw [hp] at this
        exact Nat.lt_irrefl _ this
      · exact ha p (by simp only [hdLed, List.mem_append, List.mem_cons]; exact .inr (.inl hp)) hb9
      · exact ha p (by simp only [hdLed, List.mem_append, List.mem_cons]; exact .inr (.inr hp)) hb9
    · simp [hdRefs]
    · rw [List.map_append, hpr]
      have h9 : oldNames[i]? = some (es[i]'hin).1 := by rw [← hem]; simp [hin]
      rw [List.take_succ, h9]
      simp
    · intro q hq h hh
      rcases List.mem_append.mp hh with hh | hh
      · exact hfr q hq h hh
      · obtain rfl : h = _ := by simpa using hh
        exact Nat.ne_of_gt (Heap.lt_size (N₁ q (List.mem_append_left _ (List.mem_append_right _ (List.mem_cons_of_mem _ hq)))).1)
  · intro ys nn nx h₃ tk₃ Dl F₁ N₁ hDo z4q
    obtain ⟨hs, rfl, rfl, hpr, hfr⟩ := z4q
    have hz8 : (strValues es).toArray.size = 8 := by simp [strValues, hel]
    rw [hz8] at hpr
    dsimp only at F₁ N₁ ⊢
    k_steps
    walk_at "MINE data"
    refine Stop.mk ?_
    have hokN : ∀ z ∈ oldNames, okText z := by decide +kernel
    have hok : ∀ h ∈ hs, okText h.2.1.1 ∧ okText h.2.2.1 := by
      intro h hh9
      have h9 : (h.2.1.1, h.2.2.1) ∈ (oldNames.take 8).map fun z => (z, mk) := by rw [← hpr]; exact List.mem_map_of_mem hh9
      obtain ⟨z, hz, e⟩ := List.mem_map.mp h9
      injection e with e1 e2
      rw [← e1, ← e2]
      exact ⟨hokN z (List.mem_of_mem_take hz), hmk2⟩
    have hlen8 : hs.length = 8 := by simpa [oldNames] using congrArg List.length hpr
    refine (init_ok w (lh := Dl) (n := nn) (hs := hs) (news := (L' + 1, o1) :: news) hok (by omega)).useC (Nat.le_of_ble_eq_true rfl) (Nat.le_of_ble_eq_true rfl) B F₁ X N₁ Tp rfl fun v2 nx2 h2 tk2 hv F2 N2 => ?_
    obtain ⟨T9, dT, t9, rfl, rfl, hft⟩ := hv
    have hof : ∀ p ∈ (L' + 1, o1) :: news, p.1 ≠ Dl := fun p hp => hDo p (List.mem_append_right _ hp)
    clear F₁ N₁ hDo hes N8' F9
    k_steps
    walk_at "MINE data"
    refine Stop.mk (For_N ?_)
    k_steps
    walk_at "MINE data"
    refine Stop.mk ?_
    rename_i h3 F3 N3
    have hDl : Dl < h3.objs.size := Heap.lt_size (N3 (Dl, W.listOf (hdRefs hs).toArray nn) (by simp [tabLed])).1
    refine loop_range2 restHT (fun i m nx => ∃ n hs, nx = tabLed w T9 dT Dl t9 n hs ++ ((L' + 1, o1) :: news) ∧ (hs.map fun h => (h.2.1.1, h.2.2.1)) = stage CH p g mk i ∧ m (Str.ofString "table") = some (.ref T9) ∧ m (Str.ofString "images") = some (.ref li) ∧ m (Str.ofString "chains") = some (.ref C) ∧ m (Str.ofString "parents") = some (.ref lp) ∧ m (Str.ofString "names") = some (.ref ln) ∧ ∀ q ∈ news, ∀ h ∈ hs, h.1 ≠ q.1)
      rfl F3 N3 (by decide) (by decide) (by decide) ⟨nn, hs, rfl, by rw [hpr]; rfl, rfl, rfl, rfl, rfl, rfl, hfr⟩ ?_ ?_
    · intro i tk9 m₁ nx s₁ own I hi z5q hnI hIs how hmI hr F₁ N₁
      obtain ⟨n, hs, rfl, hst, m1, m2, m3, m4, m5, hfr⟩ := z5q
      obtain ⟨h₃, tk₃, rfl⟩ := hr
      have hi4 : i < 4 := by omega
      have hln := stage_len CH p g mk i
      rw [← hst, List.length_map] at hln
      have hkl : ∀ h ∈ hs, h.2.1.1.length ≤ 1000 := fun h hh => stage_keys CH p g mk i (by omega) (h.2.1.1, h.2.2.1) (by rw [← hst]; exact List.mem_map_of_mem hh)
      have Hn : Has h₃ news := fun p hp => (N₁ p (List.mem_append_left _ (List.mem_append_right _ (List.mem_cons_of_mem _ hp)))).1
      rcases (by omega : i = 0 ∨ i = 1 ∨ i = 2 ∨ i = 3) with rfl | rfl | rfl | rfl
      · rw [show (1 : Int) + ((0 : Nat) : Int) = 1 from rfl]
        dsimp only at F₁ N₁
        k_steps
        walk_at "MINE data"
        rename Fr g' L' _ _ => F5
        rename News g' L' _ _ => N5
        refine Stop.mk (item_list (x := .str (Str.ofString "b") t1) (h1 _ fun p hp => (N5 p (List.mem_append_left _ (List.mem_append_right _ (List.mem_cons_of_mem _ hp)))).1) (by decide) (by decide) rfl ?_)
        k_steps
        walk_at "MINE data"
        rename Fr g' L' _ _ => F6
        rename News g' L' _ _ => N6
        obtain ⟨v1, hv1⟩ := itG 1 (by decide)
        obtain ⟨v2, hv2⟩ := itP 1 (by decide)
        obtain ⟨v3, hv3⟩ := itG (p 1) (hfit.par 1 (by decide))
        have hp5 := hfit.par 1 (by decide)
        have Hn6 : Has _ news := fun q hq => (N6 q (List.mem_append_left _ (List.mem_append_right _ (List.mem_cons_of_mem _ hq)))).1
        refine Stop.mk (item_list (h3' _ Hn6) (by decide) (by decide) hv1 ?_)
        k_steps
        walk_at "MINE data"
        refine Stop.mk (item_list (h2' _ Hn6) (by decide) (by decide) hv2 ?_)
        k_steps
        walk_at "MINE data"
        refine Stop.mk (item_list (h3' _ Hn6) (Int.natCast_nonneg _) (by omega) (by rw [Int.toNat_natCast]; exact hv3) ?_)
        k_steps
        walk_at "MINE data"
        refine Stop.mk ?_
        obtain ⟨ls, as, fs1, fs2, fs3⟩ := hch (g 1) (hfit.img 1 (by decide))
        obtain ⟨lg, bs, gs1, gs2, gs3⟩ := hch (g (p 1)) (hfit.img _ hp5)
        have hS : ∀ {P : Heap → Prop}, Sure news P → Sure (tabLed w T9 dT Dl t9 n hs ++ (L' + 1, o1) :: news ++ own) P := fun hP h H => hP h fun q hq => H q (List.mem_append_left _ (List.mem_append_right _ (List.mem_cons_of_mem _ hq)))
        have fw := hfit.fit 1 (by decide) (by decide)
        have fa := hfit.len (g 1) (hfit.img 1 (by decide))
        have fb := hfit.len (g (p 1)) (hfit.img _ hp5)
        rw [← fs3, ← gs3] at fw
        rw [← fs3, List.length_map] at fa
        rw [← gs3, List.length_map] at fb
        refine (way_ok w (C := C) (ls := ls) (lg := lg) (fc := fc) (st := nameK (g 1)) (gl := nameK (g (p 1))) (mk := mk) (t1 := v1) (t2 := v3) (t3 := t) (as := as) (bs := bs) (news := tabLed w T9 dT Dl t9 n hs ++ (L' + 1, o1) :: news ++ own) (hS hC) fs1 gs1 (hS fs2) (hS gs2) fa.1 fb.1 hmk hmk0 (fun z hz => (List.mem_append.mp hz).elim (fa.2 z) (fb.2 z)) fw.1).useC (Nat.le_of_ble_eq_true rfl) (Nat.le_of_ble_eq_true rfl) B F6 X N6 Tp rfl fun v7 nx7 h7 tk7 hv F7 N7 => ?_
        obtain ⟨⟨kw, rfl⟩, rfl⟩ := hv
        clear F6 N6 Hn6
        have hwG : wayZ (as.map (·.1)) (bs.map (·.1)) mk = wayG CH p g mk 1 := by rw [fs3, gs3]; rfl
        rw [hwG] at fw ⊢
        k_steps
        walk_at "MINE data"
        refine Stop.mk ?_
        refine (strip_ok w (Str.ofString " " ++ Str.ofString "B" ++ Str.ofString " ") 3 _ _ _ (by decide +kernel) (by decide) (by decide) (by decide +kernel)).useC (Nat.le_of_ble_eq_true rfl) (Nat.le_of_ble_eq_true rfl) B F7 X N7 Tp rfl fun v8 nx8 h8 tk8 hv F8 N8 => ?_
        obtain ⟨⟨k8, rfl⟩, rfl⟩ := hv
        rw [show stripZ (Int.toNat 3) (Str.ofString " " ++ Str.ofString "B" ++ Str.ofString " ") = Str.ofString "B" by decide +kernel]
        clear F7 N7
        k_steps
        walk_at "MINE data"
        refine Stop.mk ?_
        rw [List.append_assoc] at N8
        have hofN : ∀ q ∈ (L' + 1, o1) :: news ++ own, q.1 ≠ Dl := fun q hq => (List.mem_append.mp hq).elim (hof q) fun hq => Nat.ne_of_gt (Nat.lt_of_lt_of_le hDl (how q hq))
        refine (set_ok w (T := T9) (dT := dT) (lh := Dl) (t := t9) (n := n) (hs := hs) (x := Str.ofString "B") (y := wayG CH p g mk 1) (news := (L' + 1, o1) :: news ++ own) (by decide +kernel) (by decide +kernel) fw.2 (by decide +kernel) hkl (by omega) hofN).useC (Nat.le_of_ble_eq_true rfl) (Nat.le_of_ble_eq_true rfl) B F8 X N8 Tp rfl fun v9 nx9 h9 tk9 hv F9 N9 => ?_
        obtain ⟨rfl, n9, A9, hA9, rfl⟩ := hv
        clear F8 N8
        k_steps
        walk_at "MINE data"
        rw [← List.append_assoc] at N9
        obtain ⟨oI, hoI⟩ := hmI
        refine .next ⟨_, tabLed w T9 dT Dl t9 n9 (delHd (Str.ofString "B") hs ++ [(A9, (Str.ofString "B", k8), wayG CH p g mk 1, kw)]) ++ ((L' + 1, o1) :: news), ht_mk, F9, N9.perm (fun q hq => by simpa [List.append_assoc] using hq), off_tab hnI (fun e => hA9 (I, oI) (List.mem_append_right _ hoI) e.symm), n9, _, rfl, ?_, m1, m2, m3, m4, m5, fr_step hfr fun q hq => hA9 q (List.mem_append_left _ (List.mem_cons_of_mem _ hq))⟩
        rw [List.map_append, del_pairs, hst]
        show _ = setP (tabName 1) _ _
        rw [show tabName 1 = Str.ofString "B" by decide +kernel]
        rfl
      · rw [show (1 : Int) + ((1 : Nat) : Int) = 2 from rfl]
        dsimp only at F₁ N₁
        k_steps
        walk_at "MINE data"
        rename Fr g' L' _ _ => F5
        rename News g' L' _ _ => N5
        refine Stop.mk (item_list (x := .str (Str.ofString "ab") t2) (h1 _ fun p hp => (N5 p (List.mem_append_left _ (List.mem_append_right _ (List.mem_cons_of_mem _ hp)))).1) (by decide) (by decide) rfl ?_)
        k_steps
        walk_at "MINE data"
        rename Fr g' L' _ _ => F6
        rename News g' L' _ _ => N6
        obtain ⟨v1, hv1⟩ := itG 2 (by decide)
        obtain ⟨v2, hv2⟩ := itP 2 (by decide)
        obtain ⟨v3, hv3⟩ := itG (p 2) (hfit.par 2 (by decide))
        have hp5 := hfit.par 2 (by decide)
        have Hn6 : Has _ news := fun q hq => (N6 q (List.mem_append_left _ (List.mem_append_right _ (List.mem_cons_of_mem _ hq)))).1
        refine Stop.mk (item_list (h3' _ Hn6) (by decide) (by decide) hv1 ?_)
        k_steps
        walk_at "MINE data"
        refine Stop.mk (item_list (h2' _ Hn6) (by decide) (by decide) hv2 ?_)
        k_steps
        walk_at "MINE data"
        refine Stop.mk (item_list (h3' _ Hn6) (Int.natCast_nonneg _) (by omega) (by rw [Int.toNat_natCast]; exact hv3) ?_)
        k_steps
        walk_at "MINE data"
        refine Stop.mk ?_
        obtain ⟨ls, as, fs1, fs2, fs3⟩ := hch (g 2) (hfit.img 2 (by decide))
        obtain ⟨lg, bs, gs1, gs2, gs3⟩ := hch (g (p 2)) (hfit.img _ hp5)
        have hS : ∀ {P : Heap → Prop}, Sure news P → Sure (tabLed w T9 dT Dl t9 n hs ++ (L' + 1, o1) :: news ++ own) P := fun hP h H => hP h fun q hq => H q (List.mem_append_left _ (List.mem_append_right _ (List.mem_cons_of_mem _ hq)))
        have fw := hfit.fit 2 (by decide) (by decide)
        have fa := hfit.len (g 2) (hfit.img 2 (by decide))
        have fb := hfit.len (g (p 2)) (hfit.img _ hp5)
        rw [← fs3, ← gs3] at fw
        rw [← fs3, List.length_map] at fa
        rw [← gs3, List.length_map] at fb
        refine (way_ok w (C := C) (ls := ls) (lg := lg) (fc := fc) (st := nameK (g 2)) (gl := nameK (g (p 2))) (mk := mk) (t1 := v1) (t2 := v3) (t3 := t) (as := as) (bs := bs) (news := tabLed w T9 dT Dl t9 n hs ++ (L' + 1, o1) :: news ++ own) (hS hC) fs1 gs1 (hS fs2) (hS gs2) fa.1 fb.1 hmk hmk0 (fun z hz => (List.mem_append.mp hz).elim (fa.2 z) (fb.2 z)) fw.1).useC (Nat.le_of_ble_eq_true rfl) (Nat.le_of_ble_eq_true rfl) B F6 X N6 Tp rfl fun v7 nx7 h7 tk7 hv F7 N7 => ?_
        obtain ⟨⟨kw, rfl⟩, rfl⟩ := hv
        clear F6 N6 Hn6
        have hwG : wayZ (as.map (·.1)) (bs.map (·.1)) mk = wayG CH p g mk 2 := by rw [fs3, gs3]; rfl
        rw [hwG] at fw ⊢
        k_steps
        walk_at "MINE data"
        refine Stop.mk ?_
        refine (strip_ok w (Str.ofString " " ++ Str.ofString "ab" ++ Str.ofString " ") 3 _ _ _ (by decide +kernel) (by decide) (by decide) (by decide +kernel)).useC (Nat.le_of_ble_eq_true rfl) (Nat.le_of_ble_eq_true rfl) B F7 X N7 Tp rfl fun v8 nx8 h8 tk8 hv F8 N8 => ?_
        obtain ⟨⟨k8, rfl⟩, rfl⟩ := hv
        rw [show stripZ (Int.toNat 3) (Str.ofString " " ++ Str.ofString "ab" ++ Str.ofString " ") = Str.ofString "ab" by decide +kernel]
        clear F7 N7
        k_steps
        walk_at "MINE data"
        refine Stop.mk ?_
        rw [List.append_assoc] at N8
        have hofN : ∀ q ∈ (L' + 1, o1) :: news ++ own, q.1 ≠ Dl := fun q hq => (List.mem_append.mp hq).elim (hof q) fun hq => Nat.ne_of_gt (Nat.lt_of_lt_of_le hDl (how q hq))
        refine (set_ok w (T := T9) (dT := dT) (lh := Dl) (t := t9) (n := n) (hs := hs) (x := Str.ofString "ab") (y := wayG CH p g mk 2) (news := (L' + 1, o1) :: news ++ own) (by decide +kernel) (by decide +kernel) fw.2 (by decide +kernel) hkl (by omega) hofN).useC (Nat.le_of_ble_eq_true rfl) (Nat.le_of_ble_eq_true rfl) B F8 X N8 Tp rfl fun v9 nx9 h9 tk9 hv F9 N9 => ?_
        obtain ⟨rfl, n9, A9, hA9, rfl⟩ := hv
        clear F8 N8
        k_steps
        walk_at "MINE data"
        rw [← List.append_assoc] at N9
        obtain ⟨oI, hoI⟩ := hmI
        refine .next ⟨_, tabLed w T9 dT Dl t9 n9 (delHd (Str.ofString "ab") hs ++ [(A9, (Str.ofString "ab", k8), wayG CH p g mk 2, kw)]) ++ ((L' + 1, o1) :: news), ht_mk, F9, N9.perm (fun q hq => by simpa [List.append_assoc] using hq), off_tab hnI (fun e => hA9 (I, oI) (List.mem_append_right _ hoI) e.symm), n9, _, rfl, ?_, m1, m2, m3, m4, m5, fr_step hfr fun q hq => hA9 q (List.mem_append_left _ (List.mem_cons_of_mem _ hq))⟩
        rw [List.map_append, del_pairs, hst]
        show _ = setP (tabName 2) _ _
        rw [show tabName 2 = Str.ofString "ab" by decide +kernel]
        rfl
      · rw [show (1 : Int) + ((2 : Nat) : Int) = 3 from rfl]
        dsimp only at F₁ N₁
        k_steps
        walk_at "MINE data"
        rename Fr g' L' _ _ => F5
        rename News g' L' _ _ => N5
        refine Stop.mk (item_list (x := .str (Str.ofString "ba") t3) (h1 _ fun p hp => (N5 p (List.mem_append_left _ (List.mem_append_right _ (List.mem_cons_of_mem _ hp)))).1) (by decide) (by decide) rfl ?_)
        k_steps
        walk_at "MINE data"
        rename Fr g' L' _ _ => F6
        rename News g' L' _ _ => N6
        obtain ⟨v1, hv1⟩ := itG 3 (by decide)
        obtain ⟨v2, hv2⟩ := itP 3 (by decide)
        obtain ⟨v3, hv3⟩ := itG (p 3) (hfit.par 3 (by decide))
        have hp5 := hfit.par 3 (by decide)
        have Hn6 : Has _ news := fun q hq => (N6 q (List.mem_append_left _ (List.mem_append_right _ (List.mem_cons_of_mem _ hq)))).1
        refine Stop.mk (item_list (h3' _ Hn6) (by decide) (by decide) hv1 ?_)
        k_steps
        walk_at "MINE data"
        refine Stop.mk (item_list (h2' _ Hn6) (by decide) (by decide) hv2 ?_)
        k_steps
        walk_at "MINE data"
        refine Stop.mk (item_list (h3' _ Hn6) (Int.natCast_nonneg _) (by omega) (by rw [Int.toNat_natCast]; exact hv3) ?_)
        k_steps
        walk_at "MINE data"
        refine Stop.mk ?_
        obtain ⟨ls, as, fs1, fs2, fs3⟩ := hch (g 3) (hfit.img 3 (by decide))
        obtain ⟨lg, bs, gs1, gs2, gs3⟩ := hch (g (p 3)) (hfit.img _ hp5)
        have hS : ∀ {P : Heap → Prop}, Sure news P → Sure (tabLed w T9 dT Dl t9 n hs ++ (L' + 1, o1) :: news ++ own) P := fun hP h H => hP h fun q hq => H q (List.mem_append_left _ (List.mem_append_right _ (List.mem_cons_of_mem _ hq)))
        have fw := hfit.fit 3 (by decide) (by decide)
        have fa := hfit.len (g 3) (hfit.img 3 (by decide))
        have fb := hfit.len (g (p 3)) (hfit.img _ hp5)
        rw [← fs3, ← gs3] at fw
        rw [← fs3, List.length_map] at fa
        rw [← gs3, List.length_map] at fb
        refine (way_ok w (C := C) (ls := ls) (lg := lg) (fc := fc) (st := nameK (g 3)) (gl := nameK (g (p 3))) (mk := mk) (t1 := v1) (t2 := v3) (t3 := t) (as := as) (bs := bs) (news := tabLed w T9 dT Dl t9 n hs ++ (L' + 1, o1) :: news ++ own) (hS hC) fs1 gs1 (hS fs2) (hS gs2) fa.1 fb.1 hmk hmk0 (fun z hz => (List.mem_append.mp hz).elim (fa.2 z) (fb.2 z)) fw.1).useC (Nat.le_of_ble_eq_true rfl) (Nat.le_of_ble_eq_true rfl) B F6 X N6 Tp rfl fun v7 nx7 h7 tk7 hv F7 N7 => ?_
        obtain ⟨⟨kw, rfl⟩, rfl⟩ := hv
        clear F6 N6 Hn6
        have hwG : wayZ (as.map (·.1)) (bs.map (·.1)) mk = wayG CH p g mk 3 := by rw [fs3, gs3]; rfl
        rw [hwG] at fw ⊢
        k_steps
        walk_at "MINE data"
        refine Stop.mk ?_
        refine (strip_ok w (Str.ofString " " ++ Str.ofString "BA" ++ Str.ofString " ") 3 _ _ _ (by decide +kernel) (by decide) (by decide) (by decide +kernel)).useC (Nat.le_of_ble_eq_true rfl) (Nat.le_of_ble_eq_true rfl) B F7 X N7 Tp rfl fun v8 nx8 h8 tk8 hv F8 N8 => ?_
        obtain ⟨⟨k8, rfl⟩, rfl⟩ := hv
        rw [show stripZ (Int.toNat 3) (Str.ofString " " ++ Str.ofString "BA" ++ Str.ofString " ") = Str.ofString "BA" by decide +kernel]
        clear F7 N7
        k_steps
        walk_at "MINE data"
        refine Stop.mk ?_
        rw [List.append_assoc] at N8
        have hofN : ∀ q ∈ (L' + 1, o1) :: news ++ own, q.1 ≠ Dl := fun q hq => (List.mem_append.mp hq).elim (hof q) fun hq => Nat.ne_of_gt (Nat.lt_of_lt_of_le hDl (how q hq))
        refine (set_ok w (T := T9) (dT := dT) (lh := Dl) (t := t9) (n := n) (hs := hs) (x := Str.ofString "BA") (y := wayG CH p g mk 3) (news := (L' + 1, o1) :: news ++ own) (by decide +kernel) (by decide +kernel) fw.2 (by decide +kernel) hkl (by omega) hofN).useC (Nat.le_of_ble_eq_true rfl) (Nat.le_of_ble_eq_true rfl) B F8 X N8 Tp rfl fun v9 nx9 h9 tk9 hv F9 N9 => ?_
        obtain ⟨rfl, n9, A9, hA9, rfl⟩ := hv
        clear F8 N8
        k_steps
        walk_at "MINE data"
        rw [← List.append_assoc] at N9
        obtain ⟨oI, hoI⟩ := hmI
        refine .next ⟨_, tabLed w T9 dT Dl t9 n9 (delHd (Str.ofString "BA") hs ++ [(A9, (Str.ofString "BA", k8), wayG CH p g mk 3, kw)]) ++ ((L' + 1, o1) :: news), ht_mk, F9, N9.perm (fun q hq => by simpa [List.append_assoc] using hq), off_tab hnI (fun e => hA9 (I, oI) (List.mem_append_right _ hoI) e.symm), n9, _, rfl, ?_, m1, m2, m3, m4, m5, fr_step hfr fun q hq => hA9 q (List.mem_append_left _ (List.mem_cons_of_mem _ hq))⟩
        rw [List.map_append, del_pairs, hst]
        show _ = setP (tabName 3) _ _
        rw [show tabName 3 = Str.ofString "BA" by decide +kernel]
        rfl
      · rw [show (1 : Int) + ((3 : Nat) : Int) = 4 from rfl]
        dsimp only at F₁ N₁
        k_steps
        walk_at "MINE data"
        rename Fr g' L' _ _ => F5
        rename News g' L' _ _ => N5
        refine Stop.mk (item_list (x := .str (Str.ofString "bab") t4) (h1 _ fun p hp => (N5 p (List.mem_append_left _ (List.mem_append_right _ (List.mem_cons_of_mem _ hp)))).1) (by decide) (by decide) rfl ?_)
        k_steps
        walk_at "MINE data"
        rename Fr g' L' _ _ => F6
        rename News g' L' _ _ => N6
        obtain ⟨v1, hv1⟩ := itG 4 (by decide)
        obtain ⟨v2, hv2⟩ := itP 4 (by decide)
        obtain ⟨v3, hv3⟩ := itG (p 4) (hfit.par 4 (by decide))
        have hp5 := hfit.par 4 (by decide)
        have Hn6 : Has _ news := fun q hq => (N6 q (List.mem_append_left _ (List.mem_append_right _ (List.mem_cons_of_mem _ hq)))).1
        refine Stop.mk (item_list (h3' _ Hn6) (by decide) (by decide) hv1 ?_)
        k_steps
        walk_at "MINE data"
        refine Stop.mk (item_list (h2' _ Hn6) (by decide) (by decide) hv2 ?_)
        k_steps
        walk_at "MINE data"
        refine Stop.mk (item_list (h3' _ Hn6) (Int.natCast_nonneg _) (by omega) (by rw [Int.toNat_natCast]; exact hv3) ?_)
        k_steps
        walk_at "MINE data"
        refine Stop.mk ?_
        obtain ⟨ls, as, fs1, fs2, fs3⟩ := hch (g 4) (hfit.img 4 (by decide))
        obtain ⟨lg, bs, gs1, gs2, gs3⟩ := hch (g (p 4)) (hfit.img _ hp5)
        have hS : ∀ {P : Heap → Prop}, Sure news P → Sure (tabLed w T9 dT Dl t9 n hs ++ (L' + 1, o1) :: news ++ own) P := fun hP h H => hP h fun q hq => H q (List.mem_append_left _ (List.mem_append_right _ (List.mem_cons_of_mem _ hq)))
        have fw := hfit.fit 4 (by decide) (by decide)
        have fa := hfit.len (g 4) (hfit.img 4 (by decide))
        have fb := hfit.len (g (p 4)) (hfit.img _ hp5)
        rw [← fs3, ← gs3] at fw
        rw [← fs3, List.length_map] at fa
        rw [← gs3, List.length_map] at fb
        refine (way_ok w (C := C) (ls := ls) (lg := lg) (fc := fc) (st := nameK (g 4)) (gl := nameK (g (p 4))) (mk := mk) (t1 := v1) (t2 := v3) (t3 := t) (as := as) (bs := bs) (news := tabLed w T9 dT Dl t9 n hs ++ (L' + 1, o1) :: news ++ own) (hS hC) fs1 gs1 (hS fs2) (hS gs2) fa.1 fb.1 hmk hmk0 (fun z hz => (List.mem_append.mp hz).elim (fa.2 z) (fb.2 z)) fw.1).useC (Nat.le_of_ble_eq_true rfl) (Nat.le_of_ble_eq_true rfl) B F6 X N6 Tp rfl fun v7 nx7 h7 tk7 hv F7 N7 => ?_
        obtain ⟨⟨kw, rfl⟩, rfl⟩ := hv
        clear F6 N6 Hn6
        have hwG : wayZ (as.map (·.1)) (bs.map (·.1)) mk = wayG CH p g mk 4 := by rw [fs3, gs3]; rfl
        rw [hwG] at fw ⊢
        k_steps
        walk_at "MINE data"
        refine Stop.mk ?_
        refine (strip_ok w (Str.ofString " " ++ Str.ofString "bab" ++ Str.ofString " ") 3 _ _ _ (by decide +kernel) (by decide) (by decide) (by decide +kernel)).useC (Nat.le_of_ble_eq_true rfl) (Nat.le_of_ble_eq_true rfl) B F7 X N7 Tp rfl fun v8 nx8 h8 tk8 hv F8 N8 => ?_
        obtain ⟨⟨k8, rfl⟩, rfl⟩ := hv
        rw [show stripZ (Int.toNat 3) (Str.ofString " " ++ Str.ofString "bab" ++ Str.ofString " ") = Str.ofString "bab" by decide +kernel]
        clear F7 N7
        k_steps
        walk_at "MINE data"
        refine Stop.mk ?_
        rw [List.append_assoc] at N8
        have hofN : ∀ q ∈ (L' + 1, o1) :: news ++ own, q.1 ≠ Dl := fun q hq => (List.mem_append.mp hq).elim (hof q) fun hq => Nat.ne_of_gt (Nat.lt_of_lt_of_le hDl (how q hq))
        refine (set_ok w (T := T9) (dT := dT) (lh := Dl) (t := t9) (n := n) (hs := hs) (x := Str.ofString "bab") (y := wayG CH p g mk 4) (news := (L' + 1, o1) :: news ++ own) (by decide +kernel) (by decide +kernel) fw.2 (by decide +kernel) hkl (by omega) hofN).useC (Nat.le_of_ble_eq_true rfl) (Nat.le_of_ble_eq_true rfl) B F8 X N8 Tp rfl fun v9 nx9 h9 tk9 hv F9 N9 => ?_
        obtain ⟨rfl, n9, A9, hA9, rfl⟩ := hv
        clear F8 N8
        k_steps
        walk_at "MINE data"
        rw [← List.append_assoc] at N9
        obtain ⟨oI, hoI⟩ := hmI
        refine .next ⟨_, tabLed w T9 dT Dl t9 n9 (delHd (Str.ofString "bab") hs ++ [(A9, (Str.ofString "bab", k8), wayG CH p g mk 4, kw)]) ++ ((L' + 1, o1) :: news), ht_mk, F9, N9.perm (fun q hq => by simpa [List.append_assoc] using hq), off_tab hnI (fun e => hA9 (I, oI) (List.mem_append_right _ hoI) e.symm), n9, _, rfl, ?_, m1, m2, m3, m4, m5, fr_step hfr fun q hq => hA9 q (List.mem_append_left _ (List.mem_cons_of_mem _ hq))⟩
        rw [List.map_append, del_pairs, hst]
        show _ = setP (tabName 4) _ _
        rw [show tabName 4 = Str.ofString "bab" by decide +kernel]
        rfl
    · intro m₁ nx s₁ hr F₁ N₁ z6q
      obtain ⟨n, hs, rfl, hst, m1, m2, m3, m4, m5, hfr⟩ := z6q
      obtain ⟨h₃, tk₃, rfl⟩ := hr
      dsimp only at F₁ N₁ ⊢
      k_steps
      walk_at "MINE data"
      rename Fr h₀ L _ _ => F10
      rename News h₀ L _ _ => N10
      refine hret _ _ _ _ ⟨T9, dT, Dl, t9, n, hs, rfl, rfl, ?_, fun q hq => ⟨(hft q (List.mem_cons_of_mem _ hq)).1, (hft q (List.mem_cons_of_mem _ hq)).2, hof q (List.mem_cons_of_mem _ hq), hfr q hq⟩⟩ F10 (N10.perm fun q hq => ?_)
      · rw [hst]; exact stage_last CH p g mk
      · (revert hq; revert q; (try simp only [tabLed, List.cons_append]); walk_at "SUB")
end SN18
section SN19
set_option maxHeartbeats 8000000
local macro_rules | `(tactic| walk_at "eval ListComp") => `(tactic| walk_at "STOP")
local macro_rules | `(tactic| walk_at "call ref") => `(tactic| walk_at "STOP")
local macro_rules | `(tactic| walk_at "subscriptTail Call Slice ref ref") => `(tactic| walk_at "STOP")
def stepsZ (y mk : Str) : List Str := (Txt.split y mk).dropLast
def stepVal (nm mk st : Str) : Int := if collZ (Txt.lower st) (Txt.lower nm) = 0 then collZ st (backZ st ++ mk) else 0
def sumZ : List Int → Int := List.sum
def alongRow (mk : Str) (q : Str × Str) : Int := ((stepsZ q.2 mk).map (stepVal q.1 mk)).sum
def alongZ (mk : Str) (ps : List (Str × Str)) : Int := (ps.map (alongRow mk)).sum
theorem back_len {x : Str} {n : Nat} (h : x.length ≤ n) : (backZ x).length ≤ n + 3 := by
  have h1 := len_swapcase (Txt.item x 0)
  have h2 := Txt.slice_le x (some 1) none
  have h3 : (Txt.item x 0).length = 1 := rfl
  have h4 : (backZ x).length = (Txt.swapcase (Txt.item x 0)).length + (Txt.slice x (some 1) none).length := by
    show (Array.size (_ ++ _)) = _
    exact Array.size_append
  omega
theorem along_ok (w : World) {T dT lh : Addr} {t tm : Tok} {n : Nat} {hs : List Hd} {mk : Str} {news : Led} (hlen : hs.length ≤ 100) (hmk0 : (mk.length == 0) = false) (hmk : mk.length ≤ 100) (hway : ∀ h ∈ hs, h.2.2.1.length ≤ 900 ∧ h.2.1.1.length ≤ 900 ∧ ∀ st ∈ stepsZ h.2.2.1 mk, 0 < st.length) :
    Ctr w 310 240 (.ref 285) [.ref T, .str mk tm] (tabLed w T dT lh t n hs ++ news) (fun v news' => (∃ k, v = .int (alongZ mk (hs.map fun h => (h.2.1.1, h.2.2.1))) k) ∧ news' = tabLed w T dT lh t n hs ++ news) := by
  revert w T dT lh t tm n hs mk news
  intro PK w T dT lh t tm n hs mk news
  intro hlen hmk0 hmk hway
  intro mean mg mb gd cn cs a ccd cl outer A₀ base h₀ L m s Q E B₀ F₀ X₀ N₀ T₀ hk₀ hret
  walk_at "MINE enter"
  rename_i g' L' h1' FG F' N B X Tp
  try simp only [List.cons_append] at N
  replace F' : Fr g' L' h1' (fun y => List.lookup y [(Str.ofString "mark", .str mk tm), (Str.ofString "table", .ref T)]) := F'
  k_steps
  walk_at "MINE data"
  refine Stop.mk (For_N ?_)
  k_steps
  walk_at "MINE data"
  refine Stop.mk ?_
  rename Fr g' L' _ _ => F4
  rename News g' L' _ _ => N4
  show wpAny _ _ (call (.ref 157) [.ref T]) _ _ _
  refine (items_ok w (T := T) (dT := dT) (lh := lh) (t := t) (n := n) (hs := hs) (news := news) hlen).useF (Nat.le_of_ble_eq_true rfl) (Nat.le_of_ble_eq_true rfl) B F4 X N4 Tp rfl fun v5 nx5 h5 tk5 hv F5 N5 => ?_
  obtain ⟨l5, n5, rfl, rfl⟩ := hv
  clear F4 N4
  have hl5 : h5.IsList l5 (hdRefs hs).toArray := ⟨_, (N5 _ (List.mem_cons_self ..)).1, rfl, _, rfl⟩
  refine loop_listH (fun i m nx => nx = tabLed w T dT lh t n hs ++ news ∧ (∃ k, m (Str.ofString "total") = some (.int (alongZ mk ((hs.take i).map fun h => (h.2.1.1, h.2.2.1))) k)) ∧ m (Str.ofString "mark") = some (.str mk tm))
    rfl F5 (N5.perm fun p hp => List.mem_cons_of_mem _ hp) hl5 (list_ne_ns hl5 F5.ns) ?_ ?_ ?_ ?_
  · intro v hv
    have z1q : ∃ h ∈ hs, Value.ref h.1 = v := by simpa using hv
    obtain ⟨h, _, rfl⟩ := z1q
    exact GoList.tuple
  · exact ⟨rfl, ⟨_, rfl⟩, rfl⟩
  · intro i v m₁ nx h₃ tk₃ own I hi z2q hnI hIs how hmI F₁ N₁ hls
    obtain ⟨rfl, ⟨k8, m1⟩, m2⟩ := z2q
    try dsimp only at F₁ N₁ hls ⊢
    have hin : i < hs.length := by
      have := (Array.getElem?_eq_some_iff.mp hi).1; simpa using this
    obtain rfl : v = .ref (hs[i]'hin).1 := by
      have : (hdRefs hs).toArray[i]? = some (.ref (hs[i]'hin).1) := by simp [hdRefs, hin]
      exact Option.some.inj (hi.symm.trans this)
    have hT : IsTup h₃ (hs[i]'hin).1 #[.str (hs[i]'hin).2.1.1 (hs[i]'hin).2.1.2, .str (hs[i]'hin).2.2.1 (hs[i]'hin).2.2.2] := ⟨_, (N₁ ((hs[i]'hin).1, tupObj (hs[i]'hin)) (by
      simp only [tabLed, List.cons_append, List.mem_append, List.mem_cons]
      exact .inr (.inr (.inr (.inl (.inl (List.mem_map_of_mem (List.getElem_mem hin)))))))).1, rfl, _, rfl⟩
    have z3q : ∃ y ty z tz A, hs[i]'hin = (A, (y, ty), (z, tz)) := ⟨_, _, _, _, _, rfl⟩
    obtain ⟨y9, ty9, z9, tz9, h9, hq9⟩ := z3q
    rw [hq9] at hT ⊢
    dsimp only at hT ⊢
    generalize hld : tabLed w T dT lh t n hs ++ news = led at *
    have hz9 : z9.length ≤ 900 ∧ y9.length ≤ 900 ∧ ∀ st ∈ stepsZ z9 mk, 0 < st.length := by have := hway _ (List.getElem_mem hin); rw [hq9] at this; exact this
    have hzl : z9.length ≤ 900 := hz9.1
    have hyn : mk.length ≠ 0 := by simpa using hmk0
    k_steps
    walk_at "MINE data"
    refine Stop.mk (For_N ?_)
    k_steps
    walk_at "MINE data"
    refine Stop.mk ?_
    rename_i ls h8 k9 e1 e2 e3 e4 F8 N8 h9' F9 N9
    have e5 : slicePick (strValues ls).toArray none (some (-1)) none = (strValues ls.dropLast).toArray := (slicePick_butLast (strValues ls).toArray 1 (Nat.le_refl _)).trans (by simp [strValues, List.dropLast_eq_take, List.map_take])
    rw [e5] at N9
    dsimp only at N9 F9 ⊢
    generalize h8.objs.size + 1 = D9 at N9 ⊢
    have hl9 : h9'.IsList D9 (strValues ls.dropLast).toArray := ⟨_, (N9 _ (List.mem_cons_self ..)).1, rfl, _, rfl⟩
    have hst9 : ls.dropLast.map (·.1) = stepsZ z9 mk := by rw [List.map_dropLast, e1]; rfl
    clear e2 e4 F8 N8
    refine loop_listH (fun j m nx => nx = led ++ own ∧ (∃ k, m (Str.ofString "total") = some (.int (alongZ mk ((hs.take i).map fun h => (h.2.1.1, h.2.2.1)) + (((stepsZ z9 mk).take j).map (stepVal y9 mk)).sum) k)) ∧ m (Str.ofString "mark") = some (.str mk tm) ∧ m (Str.ofString "name") = some (.str y9 ty9))
      rfl F9 (N9.perm fun p hp => List.mem_cons_of_mem _ (List.mem_cons_of_mem _ hp)) hl9 (list_ne_ns hl9 F9.ns) (fun v hv => ?_) ⟨rfl, ⟨k8, ?_⟩, m2, rfl⟩ ?_ ?_
    · have z4q : ∃ q ∈ ls.dropLast, Value.str q.1 q.2 = v := by
        simp only [strValues, List.mem_toArray, List.mem_map] at hv
        obtain ⟨q, hq, rfl⟩ := hv
        exact ⟨q, hq, rfl⟩
      obtain ⟨q, _, rfl⟩ := z4q
      exact GoList.name
    · rw [List.take_zero, List.map_nil, List.sum_nil, Int.add_zero]; exact m1
    · intro j v m₂ nx h₄ tk₄ own2 I2 hj z5q hnI2 hIs2 how2 hmI2 F₂ N₂ hls2
      obtain ⟨rfl, ⟨k2, q1⟩, q2, q3⟩ := z5q
      try dsimp only at F₂ N₂ hls2 ⊢
      have hjn : j < ls.dropLast.length := by
        have := (Array.getElem?_eq_some_iff.mp hj).1; simpa [strValues] using this
      obtain rfl : .str (ls.dropLast[j]'hjn).1 (ls.dropLast[j]'hjn).2 = v := Option.some.inj ((item_str hjn).symm.trans hj)
      have hjs : (stepsZ z9 mk)[j]? = some (ls.dropLast[j]'hjn).1 := by rw [← hst9, List.getElem?_map, List.getElem?_eq_getElem hjn]; rfl
      have hmem : (ls.dropLast[j]'hjn).1 ∈ stepsZ z9 mk := List.mem_of_getElem? hjs
      have hst0 := hz9.2.2 _ hmem
      have hstl : (ls.dropLast[j]'hjn).1.length ≤ 900 := Nat.le_trans (e3 _ (List.mem_map_of_mem ((List.dropLast_sublist _).subset (List.getElem_mem hjn)))) hzl
      generalize (ls.dropLast[j]'hjn).1 = st at hjs hmem hst0 hstl ⊢
      generalize (ls.dropLast[j]'hjn).2 = ts
      have hyl : y9.length ≤ 900 := hz9.2.1
      k_steps
      walk_at "MINE data"
      refine Stop.mk ?_
      rename Fr g' L' _ _ => F5
      rename News g' L' _ _ => N5
      refine (coll_ok w (Txt.lower st) (Txt.lower y9) _ _ _).useF (Nat.le_of_ble_eq_true rfl) (Nat.le_of_ble_eq_true rfl) B F5 X N5 Tp rfl fun v5 nx5 h5' tk5' hv F6 N6 => ?_
      obtain ⟨⟨k5, rfl⟩, rfl⟩ := hv
      clear F5 N5
      k_steps
      walk_at "MINE data"
      refine Stop.mk ?_
      refine (back_ok w st _ _ hst0 (by omega)).useF (Nat.le_of_ble_eq_true rfl) (Nat.le_of_ble_eq_true rfl) B F6 X N6 Tp rfl fun v6 nx6 h6' tk6' hv F7 N7 => ?_
      obtain ⟨⟨k6, rfl⟩, rfl⟩ := hv
      clear F6 N6
      have hbl : (backZ st).length ≤ 5000 := Nat.le_trans (back_len hstl) (by decide)
      k_steps
      walk_at "MINE data"
      refine Stop.mk ?_
      refine (coll_ok w st (backZ st ++ mk) _ _ _).useF (Nat.le_of_ble_eq_true rfl) (Nat.le_of_ble_eq_true rfl) B F7 X N7 Tp rfl fun v8 nx8 h8' tk8' hv F8 N8 => ?_
      obtain ⟨⟨k8', rfl⟩, rfl⟩ := hv
      clear F7 N7
      k_steps
      walk_at "MINE data"
      refine Stop.mk (Comp_N rfl rfl (by decide) ?_)
      k_steps
      walk_at "MINE data"
      refine Stop.mk ?_
      rename_i l9 h9 hl9e l9a l9b h10 F9' N9'
      have hlo : h10.IsList l9 #[Value.int (collZ (Txt.lower st) (Txt.lower y9)) k5, Value.int (collZ st (backZ st ++ mk)) k8'] := ⟨_, (N9' _ (List.mem_cons_self ..)).1, rfl, 0, rfl⟩
      refine comp_listH (fun _ ys nx => nx = (l9, W.listOf #[Value.int (collZ (Txt.lower st) (Txt.lower y9)) k5, Value.int (collZ st (backZ st ++ mk)) k8'] 0) :: (led ++ own ++ own2) ∧ ys = [])
        rfl (by decide) rfl rfl F9' N9' hlo (list_ne_ns hlo F9'.ns) (by walk_at "INS") ⟨rfl, rfl⟩ ?_ ?_
      · intro jj v9 ys mc nx h₅ tk₅ own3 C9 wr' E' hi3 z6q ha hw how3 hmo F₃ N₃ hn3 hCo hb3 hls3
        obtain ⟨rfl, rfl⟩ := z6q
        try dsimp only at F₃ N₃ hn3 hls3 ⊢
        have z7q : ∃ z k, v9 = .int z k := by
          rcases (by have := (Array.getElem?_eq_some_iff.mp hi3).1; simp at this; omega : jj = 0 ∨ jj = 1) with rfl | rfl
          · exact ⟨_, _, (Option.some.inj hi3).symm⟩
          · exact ⟨_, _, (Option.some.inj hi3).symm⟩
        obtain ⟨z9', k9', rfl⟩ := z7q
        refine wpAny_tests_one ?_
        k_steps
        exact ⟨_, _, ht_mk, F₃, N₃, ha, rfl, rfl, rfl⟩
      · intro ys nn nx h₅ tk₅ Dl F₃ N₃ hDo z8q
        obtain ⟨rfl, rfl⟩ := z8q
        try dsimp only at F₃ N₃ ⊢
        k_steps
        walk_at "MINE data"
        · rename Fr g' L' _ _ => F10
          rename News g' L' _ _ => N10
          refine .next ⟨_, led ++ own, ht_mk, F10, N10.perm (by walk_at "SUB"), fun p hp => by simpa using hnI2 p hp, rfl, ?_, q2, q3⟩
          have heq : collZ (Txt.lower st) (Txt.lower y9) = 0 := by assumption
          have e9 : (((stepsZ z9 mk).take (j + 1)).map (stepVal y9 mk)).sum = (((stepsZ z9 mk).take j).map (stepVal y9 mk)).sum + collZ st (backZ st ++ mk) := by
            rw [List.take_succ, hjs, Option.toList_some, List.map_append, List.sum_append]
            simp only [List.map_cons, List.map_nil, List.sum_cons, List.sum_nil, stepVal, if_pos heq, Int.add_zero]
          rw [e9, ← Int.add_assoc]
          exact ⟨_, rfl⟩
        · rename Fr g' L' _ _ => F10
          rename News g' L' _ _ => N10
          have hne : collZ (Txt.lower st) (Txt.lower y9) ≠ 0 := by assumption
          refine .next ⟨_, led ++ own, ht_mk, F10, N10.perm (by walk_at "SUB"), fun p hp => by simpa using hnI2 p hp, rfl, ⟨k2, ?_⟩, q2, q3⟩
          rw [List.take_succ, hjs, Option.toList_some, List.map_append, List.sum_append]
          simp only [List.map_cons, List.map_nil, List.sum_cons, List.sum_nil, stepVal, if_neg hne, Int.add_zero]
          exact q1
    · intro m₃ nx h₅ tk₅ F₃ N₃ z9q
      obtain ⟨rfl, ⟨k3, w1⟩, w2, w3⟩ := z9q
      try dsimp only at F₃ N₃ ⊢
      walk_at "QK"
      refine wpAny_execs_nil (.next ⟨_, led, ht_mk, F₃, N₃, (fun p hp => by simpa using hnI p hp), rfl, ⟨k3, ?_⟩, w2⟩)
      have q1 : ((hs.take (i + 1)).map fun h => (h.2.1.1, h.2.2.1)) = ((hs.take i).map fun h => (h.2.1.1, h.2.2.1)) ++ [(y9, z9)] := by
        rw [List.take_succ, List.getElem?_eq_getElem hin, hq9]; simp
      have q2 : ∀ A, alongZ mk (A ++ [(y9, z9)]) = alongZ mk A + alongRow mk (y9, z9) := by intro A; unfold alongZ; simp [List.sum_append]
      have q4 : (stepsZ z9 mk).take (strValues ls.dropLast).toArray.size = stepsZ z9 mk := by
        apply List.take_of_length_le
        rw [← hst9]; simp [strValues]
      rw [q4] at w1
      rw [q1, q2]
      exact w1
  · intro m₃ nx h₅ tk₅ F₃ N₃ z10q
    obtain ⟨rfl, ⟨k3, w1⟩, w2⟩ := z10q
    try dsimp only at F₃ N₃ ⊢
    k_steps
    walk_at "MINE data"
    have q4 : hs.take (hdRefs hs).toArray.size = hs := by simp [hdRefs]
    refine hret _ _ _ _ ⟨⟨k3, ?_⟩, rfl⟩ (by k_asm) (by k_asm)
    rw [q4]
end SN19
section SN20
set_option maxHeartbeats 8000000
local macro_rules | `(tactic| walk_at "call builtin:list.pop") => `(tactic| walk_at "STOP")
local macro_rules | `(tactic| walk_at "call builtin:list.append") => `(tactic| walk_at "STOP")
theorem pop_N {prog : Program} {w : World} {A : Around} {E : Value → Shared → Prop} {s : Shared} {h₀ : Heap} {L l : Addr} {m : Str → Option Value} {its : Array Value} {n : Nat} {y : Value} {rest : Led} {Q : Value → Shared → Prop} (F : Fr h₀ L s.heap m) (N : News h₀ L s.heap ((l, W.listOf its n) :: rest))
    (hne : ∀ p ∈ rest, p.1 ≠ l) (hy : its[its.size - 1]? = some y) (hsz : its.size ≤ sizeLine) (hQ : ∀ h' n', Fr h₀ L h' m → News h₀ L h' ((l, W.listOf (its.eraseIdxIfInBounds (its.size - 1)) n') :: rest) → Q y { s with heap := h' }) : wpAny (model prog w) A (call (.builtin "list.pop") [.ref l]) Q E s := by
  have z := N (l, W.listOf its n) (List.mem_cons_self ..)
  refine call_meets PySem.F.slot_list_pop ⟨_, z.1, rfl⟩ PySem.F.entry_list_pop (PySem.F.args_list_pop_1 _) (PySem.MeetsSeq.list_pop_last l _ n y hy hsz) ⟨z.1, hQ _ (if (its.eraseIdxIfInBounds (its.size - 1)).size == its.size then n else n + 1) (F.change (Heap.SameBut.update ..) z.2.1 z.2.2) ?_⟩
  exact news_set (pre := []) N (fun _ h => nomatch h) hne (Heap.SameBut.update ..) (Heap.get?_update_self _ z.1 rfl)
theorem last_is {α : Type} {l : List α} {b : α} : l.drop (l.length - 1) = [b] ↔ l.getLast? = some b := by
  by_cases h : l = []
  · subst h; simp
  · have e : l = l.dropLast ++ [l.getLast h] := (List.dropLast_concat_getLast h).symm
    have e2 : l.drop (l.length - 1) = [l.getLast h] := by
      conv => lhs; rw [e]
      rw [List.drop_append]
      simp
    rw [e2, List.getLast?_eq_some_getLast h]; simp
local macro_rules | `(tactic| walk_at "compareOp Eq ref ref") => `(tactic| (k_here; refine Stop.out ?_))
set_option hygiene false in
local macro_rules | `(tactic| walk_at "pyIter ref") => `(tactic| (k_here; (with_reducible show wpAny _ _ (pyIter (Value.ref _)) (Mine.CompBodyP _ _ _ _ _ _ _ _ _ _ _ _ _) _ _); refine Stop.out ?_))
local macro_rules | `(tactic| walk_at "exec If") => `(tactic| (k_here; refine Stop.out ?_))
local macro_rules | `(tactic| walk_at "exec Assign cons ListComp") => `(tactic| (k_here; refine Stop.out ?_))
local macro_rules | `(tactic| walk_at "subscriptTail Name Slice ref ref") => `(tactic| (k_here; (with_reducible show wpAny _ _ (subscriptTail _ (Expr.Slice none none (some _) _) _ _) _ _ _); refine Stop.out ?_))
local macro_rules | `(tactic| walk_at "call ref") => `(tactic| (k_here; refine Stop.out ?_))
local macro_rules | `(tactic| walk_at "eval ListComp") => `(tactic| (k_here; refine Stop.out ?_))
local macro_rules | `(tactic| walk_at "subscriptTail Call Slice ref ref") => `(tactic| (k_here; refine Stop.out ?_))
def getS (x : Str) (hs : List Hd) : Str := match getHd x hs with
  | some h => h.2.2.1
  | none => ⟨#[]⟩
def partZ (mk : Str) (hs : List Hd) (st : Str) : List Str := if st = Txt.lower st then stepsZ (getS st hs) mk else (stepsZ (getS st hs) mk).reverse.map backZ
def pushZ (l : List Str) (o : Str) : List Str := if l.getLast? = some (backZ o) then l.dropLast else l ++ [o]
def walkL (mk : Str) (hs : List Hd) (sts : List Str) : List Str := sts.foldl (fun l st => (partZ mk hs st).foldl pushZ l) []
def walkedZ (mk : Str) (hs : List Hd) (way : Str) : Str := Txt.join (Str.ofString "") ((walkL mk hs (stepsZ way mk)).map (· ++ mk))
abbrev OkS (ns : List Str) : Prop := ∀ x ∈ ns, x.length < 1000 ∧ PyData.strOk x = true
structure WalkFit (mk : Str) (hs : List Hd) (way : Str) : Prop where
  len : way.length ≤ 900
  num : (stepsZ way mk).length ≤ 10
  step : ∀ st ∈ stepsZ way mk, okText (Txt.lower st) ∧ (getHd st hs).isSome = true ∧ (getS st hs).length ≤ 900 ∧ (stepsZ (getS st hs) mk).length ≤ 10 ∧ ∀ z ∈ stepsZ (getS st hs) mk, 0 < z.length
  part : ∀ st ∈ stepsZ way mk, ∀ o ∈ partZ mk hs st, 0 < o.length ∧ o.length < 1000 ∧ PyData.strOk o = true ∧ PyData.strOk (backZ o) = true
  keys : ∀ h ∈ hs, h.2.1.1.length ≤ 1000
  some : hs.length ≤ 100
  join : JoinOk (Str.ofString "") ((walkL mk hs (stepsZ way mk)).map (· ++ mk)) = true
structure Mid (P : Flow → Shared → Prop) (f : Flow) (s : Shared) : Prop where
  out : P f s
theorem walked_ok (w : World) {T dT lh : Addr} {t tw tm : Tok} {n : Nat} {hs : List Hd} {way mk : Str} {news : Led} (hmk0 : (mk.length == 0) = false) (hmk : mk.length ≤ 100) (hfit : WalkFit mk hs way) :
    Ctr w 310 240 (.ref 290) [.str way tw, .ref T, .str mk tm] (tabLed w T dT lh t n hs ++ news) (fun v news' => (∃ k, v = .str (walkedZ mk hs way) k) ∧ news' = tabLed w T dT lh t n hs ++ news) := by
  revert w T dT lh t tw tm n hs way mk news
  intro PK w T dT lh t tw tm n hs way mk news
  intro hmk0 hmk hfit
  intro mean mg mb gd cn cs a ccd cl outer A₀ base h₀ L m s Q E B₀ F₀ X₀ N₀ T₀ hk₀ hret
  walk_at "MINE enter"
  rename_i g' L' hh tk₁ FG F' B X Tp l1 o1 d1 N
  try simp only [List.cons_append, List.nil_append] at N
  have e1 : o1.data = .cell (some (.str mk tm)) := d1.trans (by kernel_rfl)
  clear d1
  replace F' : Fr g' L' hh (fun y => if y = Str.ofString "table" then some (.ref T) else if y = Str.ofString "way" then some (.str way tw) else none) := F'
  have hyn : mk.length ≠ 0 := by simpa using hmk0
  have hwl := hfit.len
  k_steps
  walk_at "MINE data"
  refine Stop.mk (For_N ?_)
  k_steps
  walk_at "MINE data"
  refine Stop.mk ?_
  rename_i ls h8 k9 e2 e3 e4 e5 F8 N8 h9' F9 N9
  have e5 : slicePick (strValues ls).toArray none (some (-1)) none = (strValues ls.dropLast).toArray := (slicePick_butLast (strValues ls).toArray 1 (Nat.le_refl _)).trans (by simp [strValues, List.dropLast_eq_take, List.map_take])
  rw [e5] at N9
  dsimp only at N9 F9 ⊢
  have hst9 : ls.dropLast.map (·.1) = stepsZ way mk := by rw [List.map_dropLast, e2]; rfl
  have hD9 : ∀ {Sl : Addr} {o : Obj} {r : Led} {x : Addr × Obj}, News g' L' h8 (x :: (Sl, o) :: r) → Sl < h8.objs.size + 1 := fun hN => Nat.lt_succ_of_lt (Heap.lt_size (hN _ (List.mem_cons_of_mem _ (List.mem_cons_self ..))).1)
  have hSD := hD9 N8
  have hstl : ∀ st ∈ stepsZ way mk, st.length ≤ 900 := fun st hm => Nat.le_trans (e4 _ (by rw [e2]; exact List.dropLast_subset _ hm)) hwl
  clear e2 e3 e4 e5 F8 N8 hD9
  generalize h8.objs.size + 1 = D9 at N9 hSD ⊢
  have hl9 : h9'.IsList D9 (strValues ls.dropLast).toArray := ⟨_, (N9 _ (List.mem_cons_self ..)).1, rfl, _, rfl⟩
  have z1q : ∃ Sl, Sl < D9 ∧ (∀ p ∈ (L' + 1, o1) :: (tabLed w T dT lh t n hs ++ news), p.1 < Sl) ∧ Fr g' L' h9' (fun y => if y = Str.ofString "steps" then some (.ref Sl) else if y = Str.ofString "table" then some (.ref T) else if y = Str.ofString "way" then some (.str way tw) else none) ∧ News g' L' h9' ((Sl, W.listOf #[] 0) :: (L' + 1, o1) :: (tabLed w T dT lh t n hs ++ news)) := ⟨_, hSD, by assumption, F9, N9.perm fun p hp => List.mem_cons_of_mem _ (List.mem_cons_of_mem _ hp)⟩
  obtain ⟨Sl, hSD', hall, F10, N10⟩ := z1q
  clear F9 N9 hSD
  have hSs : Sl < h9'.objs.size := Heap.lt_size (N10 _ (List.mem_cons_self ..)).1
  refine loop_list restHT (fun i m nx => ∃ n9 ts, nx = (Sl, W.listOf (strValues ts).toArray n9) :: (L' + 1, o1) :: (tabLed w T dT lh t n hs ++ news) ∧ ts.length ≤ i * 10 ∧ OkS (ts.map (·.1)) ∧ ts.map (·.1) = walkL mk hs ((stepsZ way mk).take i) ∧ m (Str.ofString "steps") = some (.ref Sl) ∧ m (Str.ofString "table") = some (.ref T))
    rfl F10 N10 hl9 (list_ne_ns hl9 F10.ns) ?_ ⟨0, [], rfl, Nat.zero_le _, (fun _ h => nomatch h), rfl, rfl, rfl⟩ ?_ ?_
  · intro v hv
    have z2q : ∃ q ∈ ls.dropLast, Value.str q.1 q.2 = v := by
      simp only [strValues, List.mem_toArray, List.mem_map] at hv
      obtain ⟨q, hq, rfl⟩ := hv
      exact ⟨q, hq, rfl⟩
    obtain ⟨q, _, rfl⟩ := z2q
    exact GoList.name
  · intro i v m₁ nx s₁ own I hi z3q hnI hIs how hmI hr F₁ N₁ hls
    obtain ⟨n9, ts, rfl, htl, hto, hts, m1, m2⟩ := z3q
    obtain ⟨h₃, tk₃, rfl⟩ := hr
    dsimp only at F₁ N₁ hls ⊢
    have hin : i < ls.dropLast.length := by
      have := (Array.getElem?_eq_some_iff.mp hi).1; simpa [strValues] using this
    obtain rfl : .str (ls.dropLast[i]'hin).1 (ls.dropLast[i]'hin).2 = v := Option.some.inj ((item_str hin).symm.trans hi)
    have his : (stepsZ way mk)[i]? = some (ls.dropLast[i]'hin).1 := by rw [← hst9, List.getElem?_map, List.getElem?_eq_getElem hin]; rfl
    have hmem : (ls.dropLast[i]'hin).1 ∈ stepsZ way mk := List.mem_of_getElem? his
    generalize (ls.dropLast[i]'hin).1 = st at his hmem ⊢
    generalize (ls.dropLast[i]'hin).2 = tst
    obtain ⟨f1, f2, f3, f4, f5⟩ := hfit.step st hmem
    obtain ⟨hd9, hhd⟩ := Option.isSome_iff_exists.mp f2
    have hgS : getS st hs = hd9.2.2.1 := by unfold getS; rw [hhd]
    have hgV : getV st hs = .str hd9.2.2.1 hd9.2.2.2 := by unfold getV; rw [hhd]
    rw [hgS] at f3 f4 f5
    have hs9 := hstl st hmem
    k_steps
    walk_at "MINE data"
    refine Stop.mk ?_
    rename Fr g' L' _ _ => F5
    rename News g' L' _ _ => N5
    have hoS : ∀ p ∈ own, Sl < p.1 := fun p hp => (how p hp).elim (fun e => e ▸ hSD') fun h => Nat.lt_of_lt_of_le hSs h
    have N5' := N5.perm (news' := tabLed w T dT lh t n hs ++ ((Sl, W.listOf (strValues ts).toArray n9) :: (L' + 1, o1) :: (news ++ own))) (by walk_at "SUB")
    clear N5
    refine (get_ok w (T := T) (dT := dT) (lh := lh) (t := t) (n := n) (hs := hs) (x := st) (news := (Sl, W.listOf (strValues ts).toArray n9) :: (L' + 1, o1) :: (news ++ own)) f1 (by omega) hfit.keys hfit.some).useC (Nat.le_of_ble_eq_true rfl) (Nat.le_of_ble_eq_true rfl) B F5 X N5' Tp rfl fun v5 nx5 h5 tk5 hv F6 N6 => ?_
    obtain ⟨rfl, rfl⟩ := hv
    rw [hgV]
    clear F5 N5'
    have hlt5 : ∀ p ∈ tabLed w T dT lh t n hs ++ ((Sl, W.listOf (strValues ts).toArray n9) :: (L' + 1, o1) :: (news ++ own)), p.1 < h5.objs.size := fun p hp => Heap.lt_size (N6 p hp).1
    k_steps
    walk_at "MINE data"
    rename_i ls5 h8 k9 e2 e3 e4 e5 hA h9 F9 N9
    have e7 : slicePick (strValues ls5).toArray none (some (-1)) none = (strValues ls5.dropLast).toArray := (slicePick_butLast (strValues ls5).toArray 1 (Nat.le_refl _)).trans (by simp [strValues, List.dropLast_eq_take, List.map_take])
    rw [e7] at N9
    dsimp only at N9 F9 ⊢
    have hp9 : ls5.dropLast.map (·.1) = stepsZ hd9.2.2.1 mk := by rw [List.map_dropLast, e2]; rfl
    have hpl : ∀ z ∈ stepsZ hd9.2.2.1 mk, z.length ≤ 900 := fun z hm => Nat.le_trans (e4 _ (by rw [e2]; exact List.dropLast_subset _ hm)) f3
    have hgen : ∃ Pl, (∀ p ∈ tabLed w T dT lh t n hs ++ ((Sl, W.listOf (strValues ts).toArray n9) :: (L' + 1, o1) :: (news ++ own)), p.1 ≠ Pl) ∧ Fr g' L' h9 (fun y => if y = Str.ofString "part" then some (.ref Pl) else if y = Str.ofString "step" then some (.str st tst) else m₁ y) ∧ News g' L' h9 ((Pl, W.listOf (strValues ls5.dropLast).toArray 0) :: (tabLed w T dT lh t n hs ++ ((Sl, W.listOf (strValues ts).toArray n9) :: (L' + 1, o1) :: (news ++ own)))) := by
      refine ⟨_, ?_, F9, N9.perm fun p hp => ?_⟩
      · exact fun p hp => Nat.ne_of_lt (Nat.lt_succ_of_lt (Nat.lt_trans (hlt5 p hp) (Heap.lt_size e5.choose_spec.1)))
      · (revert hp; revert p; walk_at "SUB")
    clear e2 e3 e4 e5 hA F9 N9
    obtain ⟨Pl, hPl, F9, N9⟩ := hgen
    have hbase : ∀ p ∈ ((L' + 1, o1) :: (news ++ own)) ++ tabLed w T dT lh t n hs, p.1 ≠ Sl := by
      intro p hp
      have h1 : ∀ p ∈ (L' + 1, o1) :: (tabLed w T dT lh t n hs ++ news), p.1 ≠ Sl := fun p hp => Nat.ne_of_lt (hall p hp)
      rcases (List.mem_append.mp hp).imp_left fun q => (List.mem_cons.mp q).imp_right fun q => List.mem_append.mp q with (hp | hp | hp) | hp
      · exact h1 p (hp ▸ List.mem_cons_self ..)
      · exact h1 p (List.mem_cons_of_mem _ (List.mem_append_right _ hp))
      · exact Nat.ne_of_gt (hoS p hp)
      · exact h1 p (List.mem_cons_of_mem _ (List.mem_append_left _ hp))
    generalize hbs : tabLed w T dT lh t n hs ++ ((Sl, W.listOf (strValues ts).toArray n9) :: (L' + 1, o1) :: (news ++ own)) = bsL at N9 hPl hlt5
    refine Stop.mk (wpAny_mono (Q := Mid fun f s' => f = .next ∧ ∃ h tk Pl n8 ps, s' = ⟨h, s.gens, s.drawn, tk, s.os⟩ ∧ (∃ m', Fr g' L' h m' ∧ m' (Str.ofString "part") = some (.ref Pl) ∧ m' (Str.ofString "steps") = some (.ref Sl) ∧ m' (Str.ofString "table") = some (.ref T)) ∧ News g' L' h ((Pl, W.listOf (strValues ps).toArray n8) :: bsL) ∧ (∀ p ∈ bsL, p.1 ≠ Pl) ∧ ps.map (·.1) = partZ mk hs st) (wpAny_If ?_) ?_ fun _ _ x => x)
    · k_steps
      walk_at "MINE data"
      · refine Stop.mk (CompA_N (by with_unfolding_all rfl) rfl rfl (by decide) ?_)
        k_steps
        walk_at "MINE data"
        have hrv : ((strValues ls5.dropLast).toArray.toList.reverse.toArray : Array Value) = (strValues ls5.dropLast.reverse).toArray := by simp [strValues, List.map_reverse]
        have hpn : ls5.dropLast.length ≤ 10 := by rw [← hp9, List.length_map] at f4; exact f4
        refine Stop.mk (slice_N (lo := none) (hi := none) (st := some (-1)) F9 N9 (fun b o e => Heap.get?_push_of_some _ e) (⟨_, (N9 _ (List.mem_cons_self ..)).1, rfl, _, rfl⟩ : Heap.IsList _ Pl _) (Heap.IsSliceOf.new ..) .none .none (.int _ _) (by decide) ((slicePick_rev _).trans hrv) (by simp only [strValues, List.size_toArray, List.length_map]; unfold sizeLine; omega) ?_)
        intro D h4 hk4 F10 N10 lD
        dsimp only
        clear F9 N9
        have hlD : h4.IsList D (strValues ls5.dropLast.reverse).toArray := ⟨_, (N10 _ (List.mem_cons_self ..)).1, rfl, _, rfl⟩
        have hpr9 : ls5.dropLast.reverse.map (·.1) = (stepsZ hd9.2.2.1 mk).reverse := by rw [List.map_reverse, hp9]
        have hrn : ls5.dropLast.reverse.length ≤ 10 := by rw [List.length_reverse]; exact hpn
        generalize ls5.dropLast.reverse = rs at hlD hpr9 hrn ⊢
        refine comp_listP restHT (fun i ys nx => bsL = nx ∧ ∃ qs : List (Str × Tok), ys = strValues qs ∧ qs.map (·.1) = ((stepsZ hd9.2.2.1 mk).reverse.take i).map backZ)
          rfl (by decide) rfl rfl F10 (N10.perm fun p hp => List.mem_cons_of_mem _ (List.mem_cons_of_mem _ hp)) hlD (list_ne_ns hlD F10.ns) (by simp only [strValues, List.size_toArray, List.length_map]; omega) ⟨rfl, [], rfl, rfl⟩ ?_ ?_
        · intro j v ys mc nx s₂ own2 C9 wr' E' hj z4q ha2 hw2 how2 hmo2 hr2 F₂ N₂ hn2 hCo2 hb2 hls2
          obtain ⟨rfl, qs, rfl, hqs⟩ := z4q
          obtain ⟨h₄, tk₄, rfl⟩ := hr2
          dsimp only at F₂ N₂ hn2 hls2 ⊢
          have hjn : j < rs.length := by
            have := (Array.getElem?_eq_some_iff.mp hj).1; simpa [strValues] using this
          obtain rfl : .str (rs[j]'hjn).1 (rs[j]'hjn).2 = v := Option.some.inj ((item_str hjn).symm.trans hj)
          have hjs : (stepsZ hd9.2.2.1 mk).reverse[j]? = some (rs[j]'hjn).1 := by rw [← hpr9, List.getElem?_map, List.getElem?_eq_getElem hjn]; rfl
          have hmem2 : (rs[j]'hjn).1 ∈ stepsZ hd9.2.2.1 mk := List.mem_reverse.mp (List.mem_of_getElem? hjs)
          generalize (rs[j]'hjn).1 = z at hjs hmem2 hb2 ⊢
          generalize (rs[j]'hjn).2 = tz at hb2 ⊢
          refine wpAny_tests_nil ?_
          rw [if_pos rfl]
          k_steps
          walk_at "MINE data"
          refine Stop.mk ?_
          have hz0 := f5 z hmem2
          have hzl := hpl z hmem2
          refine (back_ok w z tz _ hz0 (by omega)).useC (Nat.le_of_ble_eq_true rfl) (Nat.le_of_ble_eq_true rfl) B F₂ X N₂ Tp rfl fun v6 nx6 h6' tk6' hv F7 N7 => ?_
          obtain ⟨⟨k6, rfl⟩, rfl⟩ := hv
          clear F₂ N₂
          k_steps
          walk_at "MINE data"
          refine ⟨_, bsL, ht_mk, F7, N7, ha2, rfl, rfl, qs ++ [(backZ z, k6)], by simp [strValues], ?_⟩
          rw [List.map_append, hqs, List.take_add_one, hjs]
          simp
        · intro ys nn mc nx s₂ Dl C hr2 F₂ N₂ hDl hC hLC h0C hn2 z5q
          obtain ⟨rfl, qs, rfl, hqs⟩ := z5q
          obtain ⟨h₄, tk₄, rfl⟩ := hr2
          refine postA rfl rfl rfl F₂ N₂ hC hLC h0C hn2 fun h' tk F₃ N₃ => QK.fin hQc (wpAny_execs_nil ⟨rfl, h', tk, Dl, nn, qs, rfl, ⟨_, F₃, rfl, m1, m2⟩, N₃, hDl, ?_⟩)
          have hne : (st != Txt.lower st) = true := by assumption
          have heq : ¬ st = Txt.lower st := by simpa using hne
          unfold partZ
          rw [if_neg heq, hgS, hqs]
          congr 1
          apply List.take_of_length_le
          rw [← hpr9]; simp [strValues]
      · refine ⟨rfl, _, _, Pl, 0, ls5.dropLast, rfl, ⟨_, F9, rfl, m1, m2⟩, N9, hPl, ?_⟩
        rw [hp9]
        have hne : (st != Txt.lower st) = false := by assumption
        have heq : st = Txt.lower st := by simpa using hne
        unfold partZ
        rw [if_pos heq, hgS]
    · intro f s' z6q
      obtain ⟨rfl, h6, tk6, Pl6, n8, ps, rfl, ⟨m', F10, m3, m4, m5⟩, N10, hPl6, hps⟩ := z6q
      clear F9 N9
      try dsimp only
      k_steps
      walk_at "MINE data"
      refine Stop.mk (For_N ?_)
      k_steps
      walk_at "MINE data"
      refine Stop.mk ?_
      have hSin : (Sl, W.listOf (strValues ts).toArray n9) ∈ bsL := by rw [← hbs]; simp
      have hSP : Sl ≠ Pl6 := hPl6 _ hSin
      have hS6 : Sl < h6.objs.size := Heap.lt_size (N10 _ (List.mem_cons_of_mem _ hSin)).1
      have hl6 : h6.IsList Pl6 (strValues ps).toArray := ⟨_, (N10 _ (List.mem_cons_self ..)).1, rfl, _, rfl⟩
      have hpn : ps.length ≤ 10 := by
        have h1 := congrArg List.length hps
        have h2 : (partZ mk hs st).length = (stepsZ hd9.2.2.1 mk).length := by unfold partZ; split <;> simp [hgS]
        rw [List.length_map] at h1
        omega
      have hpart := hfit.part st hmem
      generalize hR : ((L' + 1, o1) :: (news ++ own)) ++ tabLed w T dT lh t n hs = R at hbase
      refine loop_listH (fun j m nx => ∃ n9 ts', nx = (Sl, W.listOf (strValues ts').toArray n9) :: R ∧ ts'.length ≤ i * 10 + j ∧ OkS (ts'.map (·.1)) ∧ ts'.map (·.1) = ((partZ mk hs st).take j).foldl pushZ (walkL mk hs ((stepsZ way mk).take i)) ∧ m (Str.ofString "steps") = some (.ref Sl) ∧ m (Str.ofString "table") = some (.ref T))
        rfl F10 (N10.perm (news' := (Sl, W.listOf (strValues ts).toArray n9) :: R) fun p hp => ?_) hl6 (list_ne_ns hl6 F10.ns) (fun v hv => ?_) ⟨n9, ts, rfl, htl, hto, hts, m4, m5⟩ ?_ ?_
      · rw [← hR] at hp
        rw [← hbs]
        (revert hp; revert p; walk_at "SUB")
      · have z7q : ∃ q ∈ ps, Value.str q.1 q.2 = v := by
          simp only [strValues, List.mem_toArray, List.mem_map] at hv
          obtain ⟨q, hq, rfl⟩ := hv
          exact ⟨q, hq, rfl⟩
        obtain ⟨q, _, rfl⟩ := z7q
        exact GoList.name
      · intro j v m₂ nx h₄ tk₄ own2 I2 hj z8q hnI2 hIs2 how2 hmI2 F₂ N₂ hls2
        obtain ⟨n7, ts', rfl, htl', hto', hts', q1, q2⟩ := z8q
        try dsimp only at F₂ N₂ hls2 ⊢
        have hjn : j < ps.length := by
          have := (Array.getElem?_eq_some_iff.mp hj).1; simpa [strValues] using this
        obtain rfl : .str (ps[j]'hjn).1 (ps[j]'hjn).2 = v := Option.some.inj ((item_str hjn).symm.trans hj)
        have hjs : (partZ mk hs st)[j]? = some (ps[j]'hjn).1 := by rw [← hps, List.getElem?_map, List.getElem?_eq_getElem hjn]; rfl
        have hmem2 := List.mem_of_getElem? hjs
        generalize (ps[j]'hjn).1 = o at hjs hmem2 ⊢
        generalize (ps[j]'hjn).2 = to
        obtain ⟨ho0, ho1, ho2, ho3⟩ := hpart o hmem2
        have hts6 : ts'.length ≤ 200 := by have := hfit.num; have := (List.getElem?_eq_some_iff.mp his).1; omega
        have hszS : ∀ q ∈ R ++ own2, q.1 ≠ Sl := fun q hq => (List.mem_append.mp hq).elim (hbase q) fun hq => (how2 q hq).elim (fun e => e ▸ hSP.symm) fun h => Nat.ne_of_gt (Nat.lt_of_lt_of_le hS6 h)
        have hsS : (strValues ts').toArray.size ≤ 200 := by simpa [strValues] using hts6
        k_steps
        walk_at "MINE data"
        refine Stop.mk (wpAny_If ?_)
        k_steps
        walk_at "MINE data"
        refine Stop.mk ?_
        rename Fr g' L' _ _ => F5
        rename News g' L' _ _ => N5
        refine (back_ok w o to _ ho0 ho1).useC (Nat.le_of_ble_eq_true rfl) (Nat.le_of_ble_eq_true rfl) B F5 X N5 Tp rfl fun v6 nx6 h6' tk6' hv F7 N7 => ?_
        obtain ⟨⟨k6, rfl⟩, rfl⟩ := hv
        clear F5 N5
        k_steps
        walk_at "MINE data"
        have ePick : slicePick (strValues ts').toArray (some (-1)) none none = (strValues (ts'.drop (ts'.length - 1))).toArray := (slicePick_last (strValues ts').toArray 1 (Nat.le_refl _)).trans (by simp [strValues, List.map_drop])
        rename Fr g' L' _ _ => F8
        rename News g' L' _ _ => N8
        rw [ePick] at N8
        refine Stop.mk (eq_texts (ts := ts'.drop (ts'.length - 1)) (us := [(backZ o, k6)]) ⟨_, (N8 _ (List.mem_cons_of_mem _ (List.mem_cons_self ..))).1, rfl, _, rfl⟩ ⟨_, (N8 _ (List.mem_cons_self ..)).1, rfl, _, rfl⟩ ?_ ?_ (Nat.le_of_ble_eq_true rfl) ?_)
        · intro x hx
          rw [List.map_drop] at hx
          exact (hto' x (List.mem_of_mem_drop hx)).2
        · intro x hx
          obtain rfl : x = backZ o := by simpa using hx
          exact ho3
        have N9 := N8.perm (news' := (Sl, W.listOf (strValues ts').toArray n7) :: (R ++ own2)) (by walk_at "SUB")
        clear N8
        k_steps
        walk_at "MINE data"
        · have hc : ts'.map (·.1) = (ts'.map (·.1)).dropLast ++ [backZ o] ∧ pushZ (ts'.map (·.1)) o = (ts'.map (·.1)).dropLast := by
            have hd : (ts'.drop (ts'.length - 1)).map (·.1) = [(backZ o, k6)].map (·.1) := by assumption
            rw [List.map_drop, List.map_cons, List.map_nil] at hd
            have hd := last_is.mp ((by rw [List.length_map] : (ts'.map (·.1)).drop ((ts'.map (·.1)).length - 1) = (ts'.map (·.1)).drop (ts'.length - 1)).trans hd)
            refine ⟨?_, by unfold pushZ; rw [if_pos hd]⟩
            have hne : ts'.map (·.1) ≠ [] := by intro e; rw [e] at hd; cases hd
            rw [List.getLast?_eq_some_getLast hne] at hd
            have := List.dropLast_concat_getLast hne
            rw [Option.some.inj hd] at this
            exact this.symm
          have hne : ts' ≠ [] := by
            intro e; subst e; have := hc.1; simp at this
          have hl0 : 0 < ts'.length := List.length_pos_iff.mpr hne
          rename Fr g' L' _ _ => F5
          rename News g' L' _ _ => N5
          refine Stop.mk (pop_N (y := .str (ts'.getLast hne).1 (ts'.getLast hne).2) F5 N5 hszS ?_ (by simp [strValues]; unfold sizeLine; omega) fun h8 n8 F6 N6 => ?_)
          · have h2 : (strValues ts').toArray.size = ts'.length := by simp [strValues]
            rw [h2, item_str (by omega), ← List.getLast_eq_getElem]
          have e8 : (strValues ts').toArray.eraseIdxIfInBounds ((strValues ts').toArray.size - 1) = (strValues ts'.dropLast).toArray := by
            rw [List.eraseIdxIfInBounds_toArray]
            congr 1
            have h2 : (strValues ts').toArray.size = ts'.length := by simp [strValues]
            rw [h2]
            unfold strValues
            rw [List.map_dropLast, ← List.eraseIdx_length_sub_one, List.length_map]
          rw [e8] at N6
          clear F5 N5
          k_steps
          walk_at "MINE data"
          refine .next ⟨_, (Sl, W.listOf (strValues ts'.dropLast).toArray n8) :: R, ht_mk, F6, N6, fun p hp => by
            rcases List.mem_cons.mp hp with rfl | hp
            · simpa using hnI2 _ (List.mem_cons_self ..)
            · simpa using hnI2 p (List.mem_cons_of_mem _ hp), n8, ts'.dropLast, rfl, by simp; omega, ?_, ?_, q1, q2⟩
          · intro x hx
            rw [List.map_dropLast] at hx
            exact hto' x (List.dropLast_subset _ hx)
          · rw [List.map_dropLast, List.take_add_one, hjs, Option.toList_some, List.foldl_append, ← hts']
            exact hc.2.symm
        · have hc : pushZ (ts'.map (·.1)) o = ts'.map (·.1) ++ [o] := by
            have hd : ¬ (ts'.drop (ts'.length - 1)).map (·.1) = [(backZ o, k6)].map (·.1) := by assumption
            rw [List.map_drop, List.map_cons, List.map_nil] at hd
            unfold pushZ
            rw [if_neg]
            intro hq
            exact hd ((by rw [List.length_map] : (ts'.map (·.1)).drop (ts'.length - 1) = (ts'.map (·.1)).drop ((ts'.map (·.1)).length - 1)).trans (last_is.mpr hq))
          rename Fr g' L' _ _ => F5
          rename News g' L' _ _ => N5
          refine Stop.mk (append_N F5 N5 hszS (by simp [strValues]; unfold sizeLine; omega) fun h8 F6 N6 => ?_)
          have e8 : (strValues ts').toArray.push (.str o to) = (strValues (ts' ++ [(o, to)])).toArray := by simp [strValues]
          rw [e8] at N6
          clear F5 N5
          k_steps
          walk_at "MINE data"
          refine .next ⟨_, (Sl, W.listOf (strValues (ts' ++ [(o, to)])).toArray (n7 + 1)) :: R, ht_mk, F6, N6, fun p hp => by
            rcases List.mem_cons.mp hp with rfl | hp
            · simpa using hnI2 _ (List.mem_cons_self ..)
            · simpa using hnI2 p (List.mem_cons_of_mem _ hp), n7 + 1, ts' ++ [(o, to)], rfl, by simp; omega, ?_, ?_, q1, q2⟩
          · intro x hx
            rw [List.map_append] at hx
            rcases List.mem_append.mp hx with hx | hx
            · exact hto' x hx
            · obtain rfl : x = o := by simpa using hx
              exact ⟨ho1, ho2⟩
          · rw [List.map_append, List.take_add_one, hjs, Option.toList_some, List.foldl_append, ← hts']
            exact hc.symm
      · intro m₃ nx h₅ tk₅ F₃ N₃ z9q
        obtain ⟨n7, ts', rfl, htl', hto', hts', q1, q2⟩ := z9q
        try dsimp only at F₃ N₃ ⊢
        have hpl5 : (strValues ps).toArray.size = (partZ mk hs st).length := by rw [← hps]; simp [strValues]
        rw [hpl5, List.take_length] at hts'
        try walk_at "QK"
        refine wpAny_execs_nil (.next ⟨_, (Sl, W.listOf (strValues ts').toArray n7) :: (L' + 1, o1) :: (tabLed w T dT lh t n hs ++ news), ht_mk, F₃, N₃.perm fun p hp => ?_, fun p hp => ?_, n7, ts', rfl, ?_, hto', ?_, q1, q2⟩)
        · rw [← hR]
          (revert hp; revert p; walk_at "SUB")
        · rcases List.mem_cons.mp hp with rfl | hp
          · simpa using hnI _ (List.mem_cons_self ..)
          · simpa using hnI p (List.mem_cons_of_mem _ hp)
        · have : (partZ mk hs st).length ≤ 10 := by rw [← hps, List.length_map]; exact hpn
          rw [hpl5] at htl'
          omega
        · rw [hts', List.take_add_one, his, Option.toList_some]
          unfold walkL
          rw [List.foldl_append]
          rfl
  · intro m₃ nx s₃ hr₃ F₃ N₃ z10q
    obtain ⟨n7, ts', rfl, htl', hto', hts', q1, q2⟩ := z10q
    obtain ⟨h₅, tk₅, rfl⟩ := hr₃
    dsimp only at F₃ N₃ ⊢
    have e9 : (stepsZ way mk).take (strValues ls.dropLast).toArray.size = stepsZ way mk := by
      apply List.take_of_length_le
      rw [← hst9]; simp [strValues]
    rw [e9] at hts'
    k_steps
    walk_at "MINE data"
    refine Stop.mk (Comp_N rfl rfl (by decide) ?_)
    k_steps
    walk_at "MINE data"
    rename Fr g' L' _ _ => F4
    rename News g' L' _ _ => N4
    have hlS : h₅.IsList Sl (strValues ts').toArray := ⟨_, (N4 _ (List.mem_cons_self ..)).1, rfl, _, rfl⟩
    refine Stop.mk ?_
    have htn : ts'.length ≤ 200 := by
      have := hfit.num
      have h2 : (strValues ls.dropLast).toArray.size = (stepsZ way mk).length := by rw [← hst9]; simp [strValues]
      rw [h2] at htl'
      omega
    refine comp_listH (fun i ys nx => nx = (L' + 1, o1) :: (tabLed w T dT lh t n hs ++ news) ∧ ∃ qs : List (Str × Tok), ys = strValues qs ∧ qs.map (·.1) = ((ts'.take i).map (·.1)).map (· ++ mk))
      rfl (by decide) rfl rfl F4 (N4.perm fun p hp => List.mem_cons_of_mem _ hp) hlS (list_ne_ns hlS F4.ns) (by simp only [strValues, List.size_toArray, List.length_map]; omega) ⟨rfl, [], rfl, rfl⟩ ?_ ?_
    · intro j v ys mc nx h₄ tk₄ own2 C9 wr' E' hj z11q ha2 hw2 how2 hmo2 F₂ N₂ hn2 hCo2 hb2 hls2
      obtain ⟨rfl, qs, rfl, hqs⟩ := z11q
      try dsimp only at F₂ N₂ hn2 hls2 ⊢
      have hjn : j < ts'.length := by
        have := (Array.getElem?_eq_some_iff.mp hj).1; simpa [strValues] using this
      obtain rfl : .str (ts'[j]'hjn).1 (ts'[j]'hjn).2 = v := Option.some.inj ((item_str hjn).symm.trans hj)
      have hc1 : Heap.IsCell h₄ (L' + 1) (some (.str mk tm)) := ⟨o1, (N₂ (L' + 1, o1) (by walk_at "INS")).1, e1⟩
      have hjs : (ts'.map (·.1))[j]? = some (ts'[j]'hjn).1 := by rw [List.getElem?_map, List.getElem?_eq_getElem hjn]; rfl
      refine wpAny_tests_nil ?_
      rw [if_pos rfl]
      have hzl : (ts'[j]'hjn).1.length < 1000 := (hto' _ (List.mem_map_of_mem (List.getElem_mem hjn))).1
      generalize (ts'[j]'hjn).1 = z at hjs hzl hb2 ⊢
      generalize (ts'[j]'hjn).2 = tz at hb2 ⊢
      k_steps
      walk_at "MINE data"
      refine ⟨_, _, ht_mk, F₂, N₂, ha2, rfl, rfl, qs ++ [(z ++ mk, _)], by simp [strValues]; rfl, ?_⟩
      simp only [List.map_append, hqs, List.map_take]
      rw [List.take_add_one, List.getElem?_map, hjs]
      rfl
    · intro ys nn nx h₄ tk₄ Dl F₂ N₂ hDl z12q
      obtain ⟨rfl, qs, rfl, hqs⟩ := z12q
      try dsimp only at F₂ N₂ ⊢
      have hqq : qs.map (·.1) = (walkL mk hs (stepsZ way mk)).map (· ++ mk) := by
        rw [hqs, ← hts', List.take_of_length_le (by simp [strValues])]
      clear F4 N4
      k_steps
      walk_at "MINE data"
      refine SC.join (texts := (walkL mk hs (stepsZ way mk)).map (· ++ mk)) (⟨_, (N₂ _ (List.mem_cons_self ..)).1, rfl, _, rfl⟩ : Heap.IsList _ Dl (strValues qs).toArray) hqq hfit.join fun tj kj => ?_
      k_steps
      walk_at "MINE data"
      rename Fr h₀ L _ _ => F10
      rename News h₀ L _ _ => N10
      exact hret _ _ _ _ ⟨⟨_, rfl⟩, rfl⟩ F10 (N10.perm fun q hq => List.mem_cons_of_mem _ (List.mem_cons_of_mem _ hq))
end SN20
section SN23
set_option maxHeartbeats 8000000
theorem CtrK.useL {w : World} {D U : Nat} {f : Value} {vs : List Value} {kw : List (Str × Value)} {news : Led} {Out : Value → Led → Prop} (Ct : CtrK w D U f vs kw news Out)
    {mean : ExcName → Option Value} {mg mb : Str → Option Value} {n : Str} {sc : Scope} {L' a' : Addr} {cd : Value} {base h₀ : Heap} {m : Str → Option Value} {s : Shared} {Q E : Value → Shared → Prop}
    (hD : 302 ≤ D) (hU : 7 ≤ U) (B : Below callerA base [] h₀) (F : Fr h₀ L' s.heap m) (X : (hd.heap_1 w.params).In h₀) (N : News h₀ L' s.heap news) (T : Top topProg looseG mean mg mb h₀) (hk : sc.kind = .function)
    (h : ∀ (v : Value) (news' : Led) (h' : Heap) (tk' : Nat), Out v news' → Fr h₀ L' h' m → News h₀ L' h' news' → Q v { s with heap := h', toks := tk' }) :
    wpAny (model PySem.Challenge.pw_wv0033_01 w) (callerA.deeper (envOfC n sc L' a' cd)) (call f vs kw) Q E s :=
  Ct.use (dp := (callerA.deeper (envOfC n sc L' a' cd)).depth) (un := (callerA.deeper (envOfC n sc L' a' cd)).units) (gd := some []) (cn := n) (cs := sc) (a := a') (ccd := cd) (cl := (envOfC n sc L' a' cd).cells) (outer := []) (A₀ := callerA) (base := base) (L := L') hD hU B F X N T hk h
theorem CtrN.useL {w : World} {D U : Nat} {f : Value} {vs : List Value} {news : Led} {Out : Value → Led → Prop} (Ct : CtrN w D U f vs news Out)
    {mean : ExcName → Option Value} {mg mb : Str → Option Value} {n : Str} {sc : Scope} {L' a' : Addr} {cd : Value} {base h₀ : Heap} {m : Str → Option Value} {s : Shared} {Q E : Value → Shared → Prop}
    (hD : 302 ≤ D) (hU : 7 ≤ U) (B : Below callerA base [] h₀) (F : Fr h₀ L' s.heap m) (X : (hd.heap_1 w.params).In h₀) (N : News h₀ L' s.heap news) (T : Top topProg looseG mean mg mb h₀) (hk : sc.kind = .function)
    (h : ∀ (v : Value) (news' : Led) (s' : Shared), Out v news' → Same s s' → Fr h₀ L' s'.heap m → News h₀ L' s'.heap news' → Q v s') :
    wpAny (model PySem.Challenge.pw_wv0033_01 w) (callerA.deeper (envOfC n sc L' a' cd)) (call f vs) Q E s :=
  wp_leN (dp := (callerA.deeper (envOfC n sc L' a' cd)).depth) (un := (callerA.deeper (envOfC n sc L' a' cd)).units) Ct (gd := some []) (cn := n) (cs := sc) (a := a') (ccd := cd) (cl := (envOfC n sc L' a' cd).cells) (outer := []) (A₀ := callerA) (base := base) (L := L') hD hU B F X N T hk h
def lawDef : List Stmt × Scope := match Challenge.pw_wv0033_01.main.body.getLast? with
  | some (.FunctionDef _ _ body _ _ _ scope _ _ _) => (body, scope)
  | _ => ([], default)
abbrev lawEnv (L a : Addr) (cd : Value) : Env := envOfC (Str.ofString "law") lawDef.2 L a cd
abbrev lawA (L a : Addr) (cd : Value) : Around := callerA.deeper (lawEnv L a cd)
abbrev lawRun (w : World) (L a : Addr) (cd : Value) (k : Nat) (Q : Flow → Shared → Prop) (E : Value → Shared → Prop) (s : Shared) : Prop :=
  wpAny (model Challenge.pw_wv0033_01 w) (lawA L a cd) (execs (lawDef.1.drop k) (lawEnv L a cd)) Q E s
theorem wp_execs_split {M : Model} {Γ : PySem.Ctx} {A : Around} {env : Env} (hΓ : Γ.In A) {ys : List Stmt} {Q : Flow → Shared → Prop} {E : Value → Shared → Prop} : ∀ (xs : List Stmt) (p : Pos) (s : Shared),
    Sem.wp M Γ (execs xs env) (fun f _ s' => match f with | .next => wpAny M A (execs ys env) Q E s' | f => Q f s') (fun e _ s' => E e s') p s → Sem.wp M Γ (execs (xs ++ ys) env) (fun f _ s' => Q f s') (fun e _ s' => E e s') p s
  | [], p, s, h => by
    rw [execs_nil, Sem.wp_pure'] at h
    exact h Γ p hΓ
  | st :: r, p, s, h => by
    rw [List.cons_append, execs_cons, Sem.wp_bind']
    rw [execs_cons, Sem.wp_bind'] at h
    refine Sem.wp_mono M Γ _ (fun f p' s' h' => ?_) (fun _ _ _ h' => h') _ _ h
    cases f with
    | next => exact wp_execs_split hΓ r p' s' h'
    | brk => exact h'
    | cont => exact h'
    | ret v => exact h'
theorem execs_split {M : Model} {A : Around} {env : Env} {xs ys : List Stmt} {s : Shared} {Q : Flow → Shared → Prop} {E : Value → Shared → Prop}
    (h : wpAny M A (execs xs env) (fun f s' => match f with | .next => wpAny M A (execs ys env) Q E s' | f => Q f s') E s) : wpAny M A (execs (xs ++ ys) env) Q E s :=
  fun Γ p hΓ => wp_execs_split hΓ xs p s (h Γ p hΓ)
structure SegEnd (P Z : Prop) : Prop where
  out : P ∨ Z
theorem law_seg {w : World} {L a : Addr} {cd : Value} (k j : Nat) {Q : Flow → Shared → Prop} {E : Value → Shared → Prop} {s : Shared} (P : Shared → Prop) (hn : ∀ s', P s' → lawRun w L a cd (k + j) Q E s')
    (h : wpAny (model Challenge.pw_wv0033_01 w) (lawA L a cd) (execs ((lawDef.1.drop k).take j) (lawEnv L a cd)) (Mid fun f s' => f = .next ∧ P s') E s) : lawRun w L a cd k Q E s := by
  have e : lawDef.1.drop k = (lawDef.1.drop k).take j ++ lawDef.1.drop (k + j) := by rw [← List.drop_drop, List.take_append_drop]
  unfold lawRun
  rw [e]
  refine execs_split (wpAny_mono h (fun f s' hq => ?_) fun _ _ x => x)
  obtain ⟨rfl, hp⟩ := hq.out
  exact hn s' hp
abbrev cellsL (L : Addr) (o1 o2 o3 o4 o5 o6 o7 o8 o9 : Obj) : Led := [(L + 1, o1), (L + 1 + 1, o2), (L + 1 + 1 + 1, o3), (L + 1 + 1 + 1 + 1, o4), (L + 1 + 1 + 1 + 1 + 1, o5), (L + 1 + 1 + 1 + 1 + 1 + 1, o6), (L + 1 + 1 + 1 + 1 + 1 + 1 + 1, o7), (L + 1 + 1 + 1 + 1 + 1 + 1 + 1 + 1, o8), (L + 1 + 1 + 1 + 1 + 1 + 1 + 1 + 1 + 1, o9)]
abbrev NoCell (l : Led) : Prop := ∀ p ∈ l, ∀ v, p.2.data ≠ .cell v
def isCellName (x : Str) : Bool := ["names", "parents", "lead", "chains", "ends", "row", "leads", "due", "table"].any fun y => x == Str.ofString y
theorem st_stop {M : Model} {A : Around} {env : Env} {x : Str} {v : Value} {Q : Unit → Shared → Prop} {E : Value → Shared → Prop} {s : Shared} (_ : isCellName x = true) (k : Stop (wpAny M A (storeName env x v) Q E s)) : wpAny M A (storeName env x v) Q E s := k.out
theorem NoCell.nil : NoCell [] := fun _ h => nomatch h
theorem NoCell.cons {p : Addr × Obj} {l : Led} (h : ∀ v, p.2.data ≠ .cell v) (n : NoCell l) : NoCell (p :: l) := fun q hq => by
  rcases List.mem_cons.mp hq with rfl | hq
  · exact h
  · exact n q hq
theorem NoCell.append {l l' : Led} (h : NoCell l) (n : NoCell l') : NoCell (l ++ l') := fun q hq => (List.mem_append.mp hq).elim (h q) (n q)
theorem ne_cell {h₀ h : Heap} {L c : Addr} {news : Led} {o : Obj} {v : Option Value} {p : Addr × Obj} (N : News h₀ L h news) (hc : (c, o) ∈ news) (ho : o.data = .cell v) (hp : p ∈ news) (hd : ∀ v, p.2.data ≠ .cell v) : p.1 ≠ c := by
  intro e
  have h1 := (N _ hp).1
  have h2 := (N _ hc).1
  rw [e] at h1
  rw [h1] at h2
  exact hd v ((Option.some.inj h2) ▸ ho)
def NeAll (c : Addr) : Led → Prop
  | [] => True
  | p :: l => (¬ @Eq Nat p.1 c) ∧ NeAll c l
theorem NeAll.out {c : Addr} : ∀ {l : Led}, NeAll c l → ∀ p ∈ l, p.1 ≠ c
  | [], _, _, hq => absurd hq List.not_mem_nil
  | p :: _, h, q, hq => (List.mem_cons.mp hq).elim (fun e => e ▸ h.1) (NeAll.out h.2 q)
theorem ne_add {L i j : Nat} (h : Nat.beq i j = false) : ¬ L + i = L + j := fun e => Nat.ne_of_beq_eq_false h (Nat.add_left_cancel e)
theorem storeO {M : Model} {A : Around} {E : Value → Shared → Prop} {s : Shared} {h₀ : Heap} {L a : Addr} {m : Str → Option Value} {cn : Str} {cs : Scope} {ccd : Value} {cl : List (Str × Addr)} {x : Str} {v : Value} {Q : Unit → Shared → Prop} {pre post others : Led} {c : Addr} {o : Obj} {v₀ : Option Value}
    (F : Fr h₀ L s.heap m) (N : News h₀ L s.heap (pre ++ (c, o) :: (post ++ others))) (no : ∀ p ∈ others, p.1 ≠ c) (hd : o.data = .cell v₀) (hp : NeAll c pre) (hq : NeAll c post)
    (h : ∀ h' o', Fr h₀ L h' m → News h₀ L h' (pre ++ (c, o') :: (post ++ others)) → o'.data = .cell (some v) → Q () { s with heap := h' })
    (hc : cl.lookup x = some c) (hk : cs.kind = .function) (hx : (envX cn cs L a ccd cl).kindOf x = some .cell) : wpAny M A (storeName (envX cn cs L a ccd cl) x v) Q E s := by
  have hmem := N (c, o) (List.mem_append_right _ (List.mem_cons_self ..))
  refine wpAny_storeName_cell hk hx hc ⟨o, hmem.1, hd⟩ fun h' hv hs => ?_
  obtain ⟨o', ho', hd'⟩ := hv
  refine h h' o' ⟨F.ns.sameBut hs (Ne.symm hmem.2.1), fun b ob e => (hs.2 b (fun q => ?_)).trans (F.keep b ob e), F.above⟩ (news_set (pre := pre) N hp.out (fun p hq' => (List.mem_append.mp hq').elim (hq.out p) (no p)) hs ho') hd'
  rw [q, hmem.2.2] at e; cases e
theorem no_ne {h₀ h : Heap} {L c : Addr} {pre rest others : Led} {o : Obj} {v : Option Value} (N : News h₀ L h (pre ++ (c, o) :: (rest ++ others))) (no : NoCell others) (hd : o.data = .cell v) : ∀ p ∈ others, p.1 ≠ c :=
  fun p hp => ne_cell N (List.mem_append_right _ (List.mem_cons_self ..)) hd (List.mem_append_right _ (List.mem_cons_of_mem _ (List.mem_append_right _ hp))) (no p hp)
theorem st_names {M : Model} {A : Around} {E : Value → Shared → Prop} {s : Shared} {h₀ : Heap} {L a : Addr} {cd : Value} {m : Str → Option Value} {v : Value} {Q : Unit → Shared → Prop} {others : Led} {o1 o2 o3 o4 o5 o6 o7 o8 o9 : Obj} {v₀ : Option Value}
    (F : Fr h₀ L s.heap m) (N : News h₀ L s.heap (cellsL L o1 o2 o3 o4 o5 o6 o7 o8 o9 ++ others)) (no : NoCell others) (hd : o1.data = .cell v₀)
    (h : ∀ h' o', Fr h₀ L h' m → News h₀ L h' (cellsL L o' o2 o3 o4 o5 o6 o7 o8 o9 ++ others) → o'.data = .cell (some v) → Q () { s with heap := h' }) : wpAny M A (storeName (lawEnv L a cd) (Str.ofString "names") v) Q E s := by
  exact storeO (pre := []) (post := [(L + 1 + 1, o2), (L + 1 + 1 + 1, o3), (L + 1 + 1 + 1 + 1, o4), (L + 1 + 1 + 1 + 1 + 1, o5), (L + 1 + 1 + 1 + 1 + 1 + 1, o6), (L + 1 + 1 + 1 + 1 + 1 + 1 + 1, o7), (L + 1 + 1 + 1 + 1 + 1 + 1 + 1 + 1, o8), (L + 1 + 1 + 1 + 1 + 1 + 1 + 1 + 1 + 1, o9)]) (c := L + 1) (o := o1) F N (no_ne (pre := []) (rest := [(L + 1 + 1, o2), (L + 1 + 1 + 1, o3), (L + 1 + 1 + 1 + 1, o4), (L + 1 + 1 + 1 + 1 + 1, o5), (L + 1 + 1 + 1 + 1 + 1 + 1, o6), (L + 1 + 1 + 1 + 1 + 1 + 1 + 1, o7), (L + 1 + 1 + 1 + 1 + 1 + 1 + 1 + 1, o8), (L + 1 + 1 + 1 + 1 + 1 + 1 + 1 + 1 + 1, o9)]) (c := L + 1) (o := o1) N no hd) hd trivial ⟨ne_add (i := 2) (j := 1) rfl, ne_add (i := 3) (j := 1) rfl, ne_add (i := 4) (j := 1) rfl, ne_add (i := 5) (j := 1) rfl, ne_add (i := 6) (j := 1) rfl, ne_add (i := 7) (j := 1) rfl, ne_add (i := 8) (j := 1) rfl, ne_add (i := 9) (j := 1) rfl, trivial⟩ h rfl rfl rfl
theorem st_parents {M : Model} {A : Around} {E : Value → Shared → Prop} {s : Shared} {h₀ : Heap} {L a : Addr} {cd : Value} {m : Str → Option Value} {v : Value} {Q : Unit → Shared → Prop} {others : Led} {o1 o2 o3 o4 o5 o6 o7 o8 o9 : Obj} {v₀ : Option Value}
    (F : Fr h₀ L s.heap m) (N : News h₀ L s.heap (cellsL L o1 o2 o3 o4 o5 o6 o7 o8 o9 ++ others)) (no : NoCell others) (hd : o2.data = .cell v₀)
    (h : ∀ h' o', Fr h₀ L h' m → News h₀ L h' (cellsL L o1 o' o3 o4 o5 o6 o7 o8 o9 ++ others) → o'.data = .cell (some v) → Q () { s with heap := h' }) : wpAny M A (storeName (lawEnv L a cd) (Str.ofString "parents") v) Q E s := by
  exact storeO (pre := [(L + 1, o1)]) (post := [(L + 1 + 1 + 1, o3), (L + 1 + 1 + 1 + 1, o4), (L + 1 + 1 + 1 + 1 + 1, o5), (L + 1 + 1 + 1 + 1 + 1 + 1, o6), (L + 1 + 1 + 1 + 1 + 1 + 1 + 1, o7), (L + 1 + 1 + 1 + 1 + 1 + 1 + 1 + 1, o8), (L + 1 + 1 + 1 + 1 + 1 + 1 + 1 + 1 + 1, o9)]) (c := L + 1 + 1) (o := o2) F N (no_ne (pre := [(L + 1, o1)]) (rest := [(L + 1 + 1 + 1, o3), (L + 1 + 1 + 1 + 1, o4), (L + 1 + 1 + 1 + 1 + 1, o5), (L + 1 + 1 + 1 + 1 + 1 + 1, o6), (L + 1 + 1 + 1 + 1 + 1 + 1 + 1, o7), (L + 1 + 1 + 1 + 1 + 1 + 1 + 1 + 1, o8), (L + 1 + 1 + 1 + 1 + 1 + 1 + 1 + 1 + 1, o9)]) (c := L + 1 + 1) (o := o2) N no hd) hd ⟨ne_add (i := 1) (j := 2) rfl, trivial⟩ ⟨ne_add (i := 3) (j := 2) rfl, ne_add (i := 4) (j := 2) rfl, ne_add (i := 5) (j := 2) rfl, ne_add (i := 6) (j := 2) rfl, ne_add (i := 7) (j := 2) rfl, ne_add (i := 8) (j := 2) rfl, ne_add (i := 9) (j := 2) rfl, trivial⟩ h rfl rfl rfl
theorem st_lead {M : Model} {A : Around} {E : Value → Shared → Prop} {s : Shared} {h₀ : Heap} {L a : Addr} {cd : Value} {m : Str → Option Value} {v : Value} {Q : Unit → Shared → Prop} {others : Led} {o1 o2 o3 o4 o5 o6 o7 o8 o9 : Obj} {v₀ : Option Value}
    (F : Fr h₀ L s.heap m) (N : News h₀ L s.heap (cellsL L o1 o2 o3 o4 o5 o6 o7 o8 o9 ++ others)) (no : NoCell others) (hd : o3.data = .cell v₀)
    (h : ∀ h' o', Fr h₀ L h' m → News h₀ L h' (cellsL L o1 o2 o' o4 o5 o6 o7 o8 o9 ++ others) → o'.data = .cell (some v) → Q () { s with heap := h' }) : wpAny M A (storeName (lawEnv L a cd) (Str.ofString "lead") v) Q E s := by
  exact storeO (pre := [(L + 1, o1), (L + 1 + 1, o2)]) (post := [(L + 1 + 1 + 1 + 1, o4), (L + 1 + 1 + 1 + 1 + 1, o5), (L + 1 + 1 + 1 + 1 + 1 + 1, o6), (L + 1 + 1 + 1 + 1 + 1 + 1 + 1, o7), (L + 1 + 1 + 1 + 1 + 1 + 1 + 1 + 1, o8), (L + 1 + 1 + 1 + 1 + 1 + 1 + 1 + 1 + 1, o9)]) (c := L + 1 + 1 + 1) (o := o3) F N (no_ne (pre := [(L + 1, o1), (L + 1 + 1, o2)]) (rest := [(L + 1 + 1 + 1 + 1, o4), (L + 1 + 1 + 1 + 1 + 1, o5), (L + 1 + 1 + 1 + 1 + 1 + 1, o6), (L + 1 + 1 + 1 + 1 + 1 + 1 + 1, o7), (L + 1 + 1 + 1 + 1 + 1 + 1 + 1 + 1, o8), (L + 1 + 1 + 1 + 1 + 1 + 1 + 1 + 1 + 1, o9)]) (c := L + 1 + 1 + 1) (o := o3) N no hd) hd ⟨ne_add (i := 1) (j := 3) rfl, ne_add (i := 2) (j := 3) rfl, trivial⟩ ⟨ne_add (i := 4) (j := 3) rfl, ne_add (i := 5) (j := 3) rfl, ne_add (i := 6) (j := 3) rfl, ne_add (i := 7) (j := 3) rfl, ne_add (i := 8) (j := 3) rfl, ne_add (i := 9) (j := 3) rfl, trivial⟩ h rfl rfl rfl
theorem st_chains {M : Model} {A : Around} {E : Value → Shared → Prop} {s : Shared} {h₀ : Heap} {L a : Addr} {cd : Value} {m : Str → Option Value} {v : Value} {Q : Unit → Shared → Prop} {others : Led} {o1 o2 o3 o4 o5 o6 o7 o8 o9 : Obj} {v₀ : Option Value}
    (F : Fr h₀ L s.heap m) (N : News h₀ L s.heap (cellsL L o1 o2 o3 o4 o5 o6 o7 o8 o9 ++ others)) (no : NoCell others) (hd : o4.data = .cell v₀)
    (h : ∀ h' o', Fr h₀ L h' m → News h₀ L h' (cellsL L o1 o2 o3 o' o5 o6 o7 o8 o9 ++ others) → o'.data = .cell (some v) → Q () { s with heap := h' }) : wpAny M A (storeName (lawEnv L a cd) (Str.ofString "chains") v) Q E s := by
  exact storeO (pre := [(L + 1, o1), (L + 1 + 1, o2), (L + 1 + 1 + 1, o3)]) (post := [(L + 1 + 1 + 1 + 1 + 1, o5), (L + 1 + 1 + 1 + 1 + 1 + 1, o6), (L + 1 + 1 + 1 + 1 + 1 + 1 + 1, o7), (L + 1 + 1 + 1 + 1 + 1 + 1 + 1 + 1, o8), (L + 1 + 1 + 1 + 1 + 1 + 1 + 1 + 1 + 1, o9)]) (c := L + 1 + 1 + 1 + 1) (o := o4) F N (no_ne (pre := [(L + 1, o1), (L + 1 + 1, o2), (L + 1 + 1 + 1, o3)]) (rest := [(L + 1 + 1 + 1 + 1 + 1, o5), (L + 1 + 1 + 1 + 1 + 1 + 1, o6), (L + 1 + 1 + 1 + 1 + 1 + 1 + 1, o7), (L + 1 + 1 + 1 + 1 + 1 + 1 + 1 + 1, o8), (L + 1 + 1 + 1 + 1 + 1 + 1 + 1 + 1 + 1, o9)]) (c := L + 1 + 1 + 1 + 1) (o := o4) N no hd) hd ⟨ne_add (i := 1) (j := 4) rfl, ne_add (i := 2) (j := 4) rfl, ne_add (i := 3) (j := 4) rfl, trivial⟩ ⟨ne_add (i := 5) (j := 4) rfl, ne_add (i := 6) (j := 4) rfl, ne_add (i := 7) (j := 4) rfl, ne_add (i := 8) (j := 4) rfl, ne_add (i := 9) (j := 4) rfl, trivial⟩ h rfl rfl rfl
theorem st_ends {M : Model} {A : Around} {E : Value → Shared → Prop} {s : Shared} {h₀ : Heap} {L a : Addr} {cd : Value} {m : Str → Option Value} {v : Value} {Q : Unit → Shared → Prop} {others : Led} {o1 o2 o3 o4 o5 o6 o7 o8 o9 : Obj} {v₀ : Option Value}
    (F : Fr h₀ L s.heap m) (N : News h₀ L s.heap (cellsL L o1 o2 o3 o4 o5 o6 o7 o8 o9 ++ others)) (no : NoCell others) (hd : o5.data = .cell v₀)
    (h : ∀ h' o', Fr h₀ L h' m → News h₀ L h' (cellsL L o1 o2 o3 o4 o' o6 o7 o8 o9 ++ others) → o'.data = .cell (some v) → Q () { s with heap := h' }) : wpAny M A (storeName (lawEnv L a cd) (Str.ofString "ends") v) Q E s := by
  exact storeO (pre := [(L + 1, o1), (L + 1 + 1, o2), (L + 1 + 1 + 1, o3), (L + 1 + 1 + 1 + 1, o4)]) (post := [(L + 1 + 1 + 1 + 1 + 1 + 1, o6), (L + 1 + 1 + 1 + 1 + 1 + 1 + 1, o7), (L + 1 + 1 + 1 + 1 + 1 + 1 + 1 + 1, o8), (L + 1 + 1 + 1 + 1 + 1 + 1 + 1 + 1 + 1, o9)]) (c := L + 1 + 1 + 1 + 1 + 1) (o := o5) F N (no_ne (pre := [(L + 1, o1), (L + 1 + 1, o2), (L + 1 + 1 + 1, o3), (L + 1 + 1 + 1 + 1, o4)]) (rest := [(L + 1 + 1 + 1 + 1 + 1 + 1, o6), (L + 1 + 1 + 1 + 1 + 1 + 1 + 1, o7), (L + 1 + 1 + 1 + 1 + 1 + 1 + 1 + 1, o8), (L + 1 + 1 + 1 + 1 + 1 + 1 + 1 + 1 + 1, o9)]) (c := L + 1 + 1 + 1 + 1 + 1) (o := o5) N no hd) hd ⟨ne_add (i := 1) (j := 5) rfl, ne_add (i := 2) (j := 5) rfl, ne_add (i := 3) (j := 5) rfl, ne_add (i := 4) (j := 5) rfl, trivial⟩ ⟨ne_add (i := 6) (j := 5) rfl, ne_add (i := 7) (j := 5) rfl, ne_add (i := 8) (j := 5) rfl, ne_add (i := 9) (j := 5) rfl, trivial⟩ h rfl rfl rfl
theorem st_row {M : Model} {A : Around} {E : Value → Shared → Prop} {s : Shared} {h₀ : Heap} {L a : Addr} {cd : Value} {m : Str → Option Value} {v : Value} {Q : Unit → Shared → Prop} {others : Led} {o1 o2 o3 o4 o5 o6 o7 o8 o9 : Obj} {v₀ : Option Value}
    (F : Fr h₀ L s.heap m) (N : News h₀ L s.heap (cellsL L o1 o2 o3 o4 o5 o6 o7 o8 o9 ++ others)) (no : NoCell others) (hd : o6.data = .cell v₀)
    (h : ∀ h' o', Fr h₀ L h' m → News h₀ L h' (cellsL L o1 o2 o3 o4 o5 o' o7 o8 o9 ++ others) → o'.data = .cell (some v) → Q () { s with heap := h' }) : wpAny M A (storeName (lawEnv L a cd) (Str.ofString "row") v) Q E s := by
  exact storeO (pre := [(L + 1, o1), (L + 1 + 1, o2), (L + 1 + 1 + 1, o3), (L + 1 + 1 + 1 + 1, o4), (L + 1 + 1 + 1 + 1 + 1, o5)]) (post := [(L + 1 + 1 + 1 + 1 + 1 + 1 + 1, o7), (L + 1 + 1 + 1 + 1 + 1 + 1 + 1 + 1, o8), (L + 1 + 1 + 1 + 1 + 1 + 1 + 1 + 1 + 1, o9)]) (c := L + 1 + 1 + 1 + 1 + 1 + 1) (o := o6) F N (no_ne (pre := [(L + 1, o1), (L + 1 + 1, o2), (L + 1 + 1 + 1, o3), (L + 1 + 1 + 1 + 1, o4), (L + 1 + 1 + 1 + 1 + 1, o5)]) (rest := [(L + 1 + 1 + 1 + 1 + 1 + 1 + 1, o7), (L + 1 + 1 + 1 + 1 + 1 + 1 + 1 + 1, o8), (L + 1 + 1 + 1 + 1 + 1 + 1 + 1 + 1 + 1, o9)]) (c := L + 1 + 1 + 1 + 1 + 1 + 1) (o := o6) N no hd) hd ⟨ne_add (i := 1) (j := 6) rfl, ne_add (i := 2) (j := 6) rfl, ne_add (i := 3) (j := 6) rfl, ne_add (i := 4) (j := 6) rfl, ne_add (i := 5) (j := 6) rfl, trivial⟩ ⟨ne_add (i := 7) (j := 6) rfl, ne_add (i := 8) (j := 6) rfl, ne_add (i := 9) (j := 6) rfl, trivial⟩ h rfl rfl rfl
theorem st_leads {M : Model} {A : Around} {E : Value → Shared → Prop} {s : Shared} {h₀ : Heap} {L a : Addr} {cd : Value} {m : Str → Option Value} {v : Value} {Q : Unit → Shared → Prop} {others : Led} {o1 o2 o3 o4 o5 o6 o7 o8 o9 : Obj} {v₀ : Option Value}
    (F : Fr h₀ L s.heap m) (N : News h₀ L s.heap (cellsL L o1 o2 o3 o4 o5 o6 o7 o8 o9 ++ others)) (no : NoCell others) (hd : o7.data = .cell v₀)
    (h : ∀ h' o', Fr h₀ L h' m → News h₀ L h' (cellsL L o1 o2 o3 o4 o5 o6 o' o8 o9 ++ others) → o'.data = .cell (some v) → Q () { s with heap := h' }) : wpAny M A (storeName (lawEnv L a cd) (Str.ofString "leads") v) Q E s := by
  exact storeO (pre := [(L + 1, o1), (L + 1 + 1, o2), (L + 1 + 1 + 1, o3), (L + 1 + 1 + 1 + 1, o4), (L + 1 + 1 + 1 + 1 + 1, o5), (L + 1 + 1 + 1 + 1 + 1 + 1, o6)]) (post := [(L + 1 + 1 + 1 + 1 + 1 + 1 + 1 + 1, o8), (L + 1 + 1 + 1 + 1 + 1 + 1 + 1 + 1 + 1, o9)]) (c := L + 1 + 1 + 1 + 1 + 1 + 1 + 1) (o := o7) F N (no_ne (pre := [(L + 1, o1), (L + 1 + 1, o2), (L + 1 + 1 + 1, o3), (L + 1 + 1 + 1 + 1, o4), (L + 1 + 1 + 1 + 1 + 1, o5), (L + 1 + 1 + 1 + 1 + 1 + 1, o6)]) (rest := [(L + 1 + 1 + 1 + 1 + 1 + 1 + 1 + 1, o8), (L + 1 + 1 + 1 + 1 + 1 + 1 + 1 + 1 + 1, o9)]) (c := L + 1 + 1 + 1 + 1 + 1 + 1 + 1) (o := o7) N no hd) hd ⟨ne_add (i := 1) (j := 7) rfl, ne_add (i := 2) (j := 7) rfl, ne_add (i := 3) (j := 7) rfl, ne_add (i := 4) (j := 7) rfl, ne_add (i := 5) (j := 7) rfl, ne_add (i := 6) (j := 7) rfl, trivial⟩ ⟨ne_add (i := 8) (j := 7) rfl, ne_add (i := 9) (j := 7) rfl, trivial⟩ h rfl rfl rfl
theorem st_due {M : Model} {A : Around} {E : Value → Shared → Prop} {s : Shared} {h₀ : Heap} {L a : Addr} {cd : Value} {m : Str → Option Value} {v : Value} {Q : Unit → Shared → Prop} {others : Led} {o1 o2 o3 o4 o5 o6 o7 o8 o9 : Obj} {v₀ : Option Value}
    (F : Fr h₀ L s.heap m) (N : News h₀ L s.heap (cellsL L o1 o2 o3 o4 o5 o6 o7 o8 o9 ++ others)) (no : NoCell others) (hd : o8.data = .cell v₀)
    (h : ∀ h' o', Fr h₀ L h' m → News h₀ L h' (cellsL L o1 o2 o3 o4 o5 o6 o7 o' o9 ++ others) → o'.data = .cell (some v) → Q () { s with heap := h' }) : wpAny M A (storeName (lawEnv L a cd) (Str.ofString "due") v) Q E s := by
  exact storeO (pre := [(L + 1, o1), (L + 1 + 1, o2), (L + 1 + 1 + 1, o3), (L + 1 + 1 + 1 + 1, o4), (L + 1 + 1 + 1 + 1 + 1, o5), (L + 1 + 1 + 1 + 1 + 1 + 1, o6), (L + 1 + 1 + 1 + 1 + 1 + 1 + 1, o7)]) (post := [(L + 1 + 1 + 1 + 1 + 1 + 1 + 1 + 1 + 1, o9)]) (c := L + 1 + 1 + 1 + 1 + 1 + 1 + 1 + 1) (o := o8) F N (no_ne (pre := [(L + 1, o1), (L + 1 + 1, o2), (L + 1 + 1 + 1, o3), (L + 1 + 1 + 1 + 1, o4), (L + 1 + 1 + 1 + 1 + 1, o5), (L + 1 + 1 + 1 + 1 + 1 + 1, o6), (L + 1 + 1 + 1 + 1 + 1 + 1 + 1, o7)]) (rest := [(L + 1 + 1 + 1 + 1 + 1 + 1 + 1 + 1 + 1, o9)]) (c := L + 1 + 1 + 1 + 1 + 1 + 1 + 1 + 1) (o := o8) N no hd) hd ⟨ne_add (i := 1) (j := 8) rfl, ne_add (i := 2) (j := 8) rfl, ne_add (i := 3) (j := 8) rfl, ne_add (i := 4) (j := 8) rfl, ne_add (i := 5) (j := 8) rfl, ne_add (i := 6) (j := 8) rfl, ne_add (i := 7) (j := 8) rfl, trivial⟩ ⟨ne_add (i := 9) (j := 8) rfl, trivial⟩ h rfl rfl rfl
theorem st_table {M : Model} {A : Around} {E : Value → Shared → Prop} {s : Shared} {h₀ : Heap} {L a : Addr} {cd : Value} {m : Str → Option Value} {v : Value} {Q : Unit → Shared → Prop} {others : Led} {o1 o2 o3 o4 o5 o6 o7 o8 o9 : Obj} {v₀ : Option Value}
    (F : Fr h₀ L s.heap m) (N : News h₀ L s.heap (cellsL L o1 o2 o3 o4 o5 o6 o7 o8 o9 ++ others)) (no : NoCell others) (hd : o9.data = .cell v₀)
    (h : ∀ h' o', Fr h₀ L h' m → News h₀ L h' (cellsL L o1 o2 o3 o4 o5 o6 o7 o8 o' ++ others) → o'.data = .cell (some v) → Q () { s with heap := h' }) : wpAny M A (storeName (lawEnv L a cd) (Str.ofString "table") v) Q E s := by
  exact storeO (pre := [(L + 1, o1), (L + 1 + 1, o2), (L + 1 + 1 + 1, o3), (L + 1 + 1 + 1 + 1, o4), (L + 1 + 1 + 1 + 1 + 1, o5), (L + 1 + 1 + 1 + 1 + 1 + 1, o6), (L + 1 + 1 + 1 + 1 + 1 + 1 + 1, o7), (L + 1 + 1 + 1 + 1 + 1 + 1 + 1 + 1, o8)]) (post := []) (c := L + 1 + 1 + 1 + 1 + 1 + 1 + 1 + 1 + 1) (o := o9) F N (no_ne (pre := [(L + 1, o1), (L + 1 + 1, o2), (L + 1 + 1 + 1, o3), (L + 1 + 1 + 1 + 1, o4), (L + 1 + 1 + 1 + 1 + 1, o5), (L + 1 + 1 + 1 + 1 + 1 + 1, o6), (L + 1 + 1 + 1 + 1 + 1 + 1 + 1, o7), (L + 1 + 1 + 1 + 1 + 1 + 1 + 1 + 1, o8)]) (rest := []) (c := L + 1 + 1 + 1 + 1 + 1 + 1 + 1 + 1 + 1) (o := o9) N no hd) hd ⟨ne_add (i := 1) (j := 9) rfl, ne_add (i := 2) (j := 9) rfl, ne_add (i := 3) (j := 9) rfl, ne_add (i := 4) (j := 9) rfl, ne_add (i := 5) (j := 9) rfl, ne_add (i := 6) (j := 9) rfl, ne_add (i := 7) (j := 9) rfl, ne_add (i := 8) (j := 9) rfl, trivial⟩ trivial h rfl rfl rfl
theorem front1 {g h : Heap} {L : Addr} {a : Addr × Obj} {cs o : Led} (N : News g L h (a :: (cs ++ o))) : News g L h (cs ++ (a :: o)) := N.perm (by walk_at "SUB")
theorem front2 {g h : Heap} {L : Addr} {a b : Addr × Obj} {cs o : Led} (N : News g L h (a :: b :: (cs ++ o))) : News g L h (cs ++ (a :: b :: o)) := N.perm (by walk_at "SUB")
theorem front3 {g h : Heap} {L : Addr} {a b c : Addr × Obj} {cs o : Led} (N : News g L h (a :: b :: c :: (cs ++ o))) : News g L h (cs ++ (a :: b :: c :: o)) := N.perm (by walk_at "SUB")
theorem front4 {g h : Heap} {L : Addr} {a b c d : Addr × Obj} {cs o : Led} (N : News g L h (a :: b :: c :: d :: (cs ++ o))) : News g L h (cs ++ (a :: b :: c :: d :: o)) := N.perm (by walk_at "SUB")
theorem NoCell.list {a : Addr} {vs : Array Value} {n : Nat} {l : Led} (n' : NoCell l) : NoCell ((a, W.listOf vs n) :: l) := NoCell.cons (fun v e => by cases e) n'
end SN23
section SN24
set_option maxHeartbeats 8000000
set_option hygiene false in
local macro_rules | `(tactic| walk_at "CR") => `(tactic| (k_here; (fail_if_success (with_reducible show wpAny _ _ (call (Value.ref 211) _) _ _ _)); refine Stop.out ?_))
set_option hygiene false in
local macro_rules | `(tactic| walk_at "SN") => `(tactic| (k_here; refine st_stop (by decide +kernel) ?_))
local macro_rules | `(tactic| walk_at "eval ListComp") => `(tactic| walk_at "STOP")
local macro_rules | `(tactic| walk_at "exec Assign cons ListComp") => `(tactic| walk_at "STOP")
local macro_rules | `(tactic| walk_at "call ref") => `(tactic| walk_at "CR")
local macro_rules | `(tactic| walk_at "storeName") => `(tactic| walk_at "SN")
local macro_rules | `(tactic| walk_at "subscriptTail List BinOp ref int") => `(tactic| walk_at "STOP")
local macro_rules | `(tactic| walk_at "subscriptTail") => `(tactic| (k_here; (with_reducible show wpAny _ _ (subscriptTail (Expr.List _ _) _ _ _) _ _ _); refine Stop.out ?_))
theorem CtrPre.useL {w : World} {D U : Nat} {f : Value} {vs : List Value} {news : Led} {Pre : Heap → Prop} {Out : Value → Led → Prop} (Ct : CtrPre w D U f vs news Pre Out)
    {mean : ExcName → Option Value} {mg mb : Str → Option Value} {n : Str} {sc : Scope} {L' a' : Addr} {cd : Value} {base h₀ : Heap} {m : Str → Option Value} {s : Shared} {Q E : Value → Shared → Prop}
    (hD : 302 ≤ D) (hU : 7 ≤ U) (B : Below callerA base [] h₀) (F : Fr h₀ L' s.heap m) (X : (hd.heap_1 w.params).In h₀) (N : News h₀ L' s.heap news) (T : Top topProg looseG mean mg mb h₀) (hk : sc.kind = .function) (hp : Pre h₀)
    (h : ∀ (v : Value) (news' : Led) (h' : Heap) (tk' : Nat), Out v news' → Fr h₀ L' h' m → News h₀ L' h' news' → Q v { s with heap := h', toks := tk' }) :
    wpAny (model PySem.Challenge.pw_wv0033_01 w) (callerA.deeper (envOfC n sc L' a' cd)) (call f vs) Q E s :=
  wp_le (A' := ktrTop D U (some []) n sc L' a' cd (envOfC n sc L' a' cd).cells []) rfl hD rfl rfl hU (Ct mean mg mb (some []) n sc a' cd (envOfC n sc L' a' cd).cells [] callerA base h₀ L' m s Q E B F X N T hk hp h)
def MARKS : List Str := [Str.ofString " ", Str.ofString "x", Str.ofString "; "]
theorem mark_at {k : Nat} (h : k < 3) (u0 u1 u2 : Tok) : ∃ mk tm, mk ∈ MARKS ∧ (#[Value.str (Str.ofString " ") u0, Value.str (Str.ofString "x") u1, Value.str (Str.ofString "; ") u2] : Array Value)[k]? = some (.str mk tm) := by
  rcases (by omega : k = 0 ∨ k = 1 ∨ k = 2) with rfl | rfl | rfl
  · exact ⟨_, _, by simp [MARKS], rfl⟩
  · exact ⟨_, _, by simp [MARKS], rfl⟩
  · exact ⟨_, _, by simp [MARKS], rfl⟩
theorem mark_item {prog : Program} {w : World} {A : Around} {E : Value → Shared → Prop} {s : Shared} {es : List Expr} {p : Pos} {slice : Expr} {l : Addr} {i : Int} {u : Tok} {k : Nat} {u0 u1 u2 : Tok} {Q : Value → Shared → Prop} (hl : s.heap.IsList l #[.str (Str.ofString " ") u0, .str (Str.ofString "x") u1, .str (Str.ofString "; ") u2]) (hk : k < 3) (e : i = (k : Int))
    (h : ∀ mk tm, mk ∈ MARKS → Q (.str mk tm) s) (hs : subscripted slice false (.ref l) (.int i u) = operate [.ref l, .int i u] (getItem (.ref l) (.int i u)) := by with_unfolding_all rfl) : wpAny (model prog w) A (subscriptTail (.List es p) slice (.ref l) (.int i u)) Q E s := by
  obtain ⟨mk, tm, h1, h2⟩ := mark_at hk u0 u1 u2
  subst e
  exact kba_turn (value' := .Name (Str.ofString "_") ⟨0, 0, 0, 0⟩) (fun _ => rfl) (item_list hl (Int.natCast_nonneg _) (by omega) (by rw [Int.toNat_natCast]; exact h2) (h mk tm h1) (hs := hs))
theorem fmod_nat (x : Int) {n : Nat} (h : 0 < n) : ∃ a : Nat, a < n ∧ x.fmod (n : Int) = (a : Int) := by
  have h1 : (0 : Int) ≤ n := Int.natCast_nonneg n
  rw [Int.fmod_eq_emod_of_nonneg x h1]
  have h2 := Int.emod_nonneg x (b := (n : Int)) (by omega)
  have h3 := Int.emod_lt_of_pos x (b := (n : Int)) (by omega)
  exact ⟨(x % n).toNat, by omega, by omega⟩
structure StA (h₀ : Heap) (L : Addr) (o3 o4 o5 o6 o7 o8 o9 : Obj) (s s' : Shared) : Prop where
  out : ∃ m' o1 o2 ns ks mk tm others ln lp lc z0 z1 z2 t0 t1 t2 a b c,
    Same s s' ∧ Fr h₀ L s'.heap m' ∧ News h₀ L s'.heap (cellsL L o1 o2 o3 o4 o5 o6 o7 o8 o9 ++ ((206, tabObj #[]) :: others)) ∧ NoCell others ∧ (∀ p ∈ others, p.1 ≠ 206) ∧
    o1.data = .cell (some (.ref ln)) ∧ o2.data = .cell (some (.ref lp)) ∧ m' (Str.ofString "cells") = some (.ref lc) ∧ m' (Str.ofString "mark") = some (.str mk tm) ∧ mk ∈ MARKS ∧
    (Sure others fun h => h.IsList ln (strValues ns).toArray) ∧ ns.map (·.1) = NAMES ∧ (Sure others fun h => h.IsList lp (intsOf ks)) ∧ ks.map (·.1) = tree a b c ∧ a < 2 ∧ b < 3 ∧ c < 4 ∧
    (Sure others fun h => h.IsList lc #[.int z0 t0, .int z1 t1, .int z2 t2]) ∧ (0 ≤ z1 ∧ z1 ≤ 100000000) ∧ (0 ≤ z2 ∧ z2 ≤ 100000000)
theorem segA {w : World} {mean : ExcName → Option Value} {mg mb : Str → Option Value} {h₀ : Heap} {L a ls : Addr} {cd : Value} {m : Str → Option Value} {s : Shared} {E : Value → Shared → Prop} {vs : List Value} {ns : List Int} {o1 o2 o3 o4 o5 o6 o7 o8 o9 : Obj}
    (B : Below callerA h₀ [] h₀) (F : Fr h₀ L s.heap m) (hm : m (Str.ofString "script") = some (.ref ls)) (X : (hd.heap_1 w.params).In h₀)
    (N : News h₀ L s.heap (cellsL L o1 o2 o3 o4 o5 o6 o7 o8 o9 ++ [(206, tabObj #[])]))
    (c1 : o1.data = .cell none) (c2 : o2.data = .cell none)
    (T : Top topProg looseG mean mg mb h₀) (h206 : 206 < L) (hl : h₀.IsList ls vs.toArray) (hi : IntsAre vs ns) (hn : ns.length ≤ 63) :
    wpAny (model Challenge.pw_wv0033_01 w) (lawA L a cd) (execs ((lawDef.1.drop 0).take 4) (lawEnv L a cd)) (Mid fun f s' => f = .next ∧ StA h₀ L o3 o4 o5 o6 o7 o8 o9 s s') E s := by
  revert w mean mg mb h₀ L a ls cd m s E vs ns o1 o2 o3 o4 o5 o6 o7 o8 o9
  intro PK w mean mg mb h₀ L a ls cd m s E vs ns o1 o2 o3 o4 o5 o6 o7 o8 o9
  intro B F hm X N c1 c2 T h206 hl hi hn
  walk_at "MINE fill"
  conv in List.drop _ _ => whnf
  simp only [List.take_succ_cons, List.take_zero]
  have h206' : @LT.lt Nat _ 206 L := h206
  have no0 : NoCell [(206, tabObj #[])] := NoCell.cons (fun v e => by cases e) NoCell.nil
  k_steps
  walk_at "MINE data"
  refine Stop.mk ?_
  rename Fr h₀ L _ _ => F1
  rename News h₀ L _ _ => N1
  refine (cells_ok w (ls := ls) (vs := vs) (ns := ns) hi hn).useL (Nat.le_of_ble_eq_true rfl) (Nat.le_of_ble_eq_true rfl) B F1 X N1 T rfl hl fun v5 nx5 h5 tk5 hv F5 N5 => ?_
  obtain ⟨lc, z0, z1, z2, t0, t1, t2, n0, rfl, rfl, hz0, hz1, hz2⟩ := hv
  clear F1 N1
  have no1 : NoCell ((lc, W.listOf #[.int z0 t0, .int z1 t1, .int z2 t2] n0) :: [(206, tabObj #[])]) := NoCell.cons (fun v e => by cases e) no0
  k_steps
  walk_at "MINE data"
  rename Fr h₀ L _ _ => F1
  rename News h₀ L _ _ => N1
  refine Stop.mk (st_names F1 (front2 N1) (NoCell.list no1) c1 fun h6 o1' F6 N6 d1 => ?_)
  clear F1 N1
  k_steps
  walk_at "MINE data"
  rename Fr h₀ L _ _ => F1
  rename News h₀ L _ _ => N1
  refine Stop.mk (st_parents F1 (front1 N1) (NoCell.list (NoCell.list no1)) c2 fun h7 o2' F7 N7 d2 => ?_)
  clear F1 N1
  k_steps
  walk_at "MINE data"
  obtain ⟨k3, hk3, ek3⟩ := fmod_nat (z0.fdiv 24) (n := 3) (by decide)
  rename Fr h₀ L _ _ => F1
  rename News h₀ L _ _ => N1
  refine Stop.mk (mark_item (⟨_, (N1 _ (List.mem_cons_self ..)).1, rfl, _, rfl⟩ : Heap.IsList _ _ _) hk3 ek3 fun mk tm hmk => ?_)
  k_steps
  walk_at "MINE data"
  obtain ⟨a9, ha9, ea9⟩ := fmod_nat z0 (n := 2) (by decide)
  obtain ⟨b9, hb9, eb9⟩ := fmod_nat (z0.fdiv 2) (n := 3) (by decide)
  obtain ⟨c9, hc9, ec9⟩ := fmod_nat (z0.fdiv 6) (n := 4) (by decide)
  rename Fr h₀ L _ _ => F2
  rename News h₀ L _ _ => N2
  rename_i hE
  rw [show z0.fmod 2 = (a9 : Int) from ea9, show (z0.fdiv 2).fmod 3 = (b9 : Int) from eb9, show (z0.fdiv 6).fmod 4 = (c9 : Int) from ec9] at N2
  have z1q : ∃ lm om lp ln v0 v1 v2 v3 v4 u0 u1 u2 u3 u4, News h₀ L hE ((lm, om) :: (cellsL L o1' o2' o3 o4 o5 o6 o7 o8 o9 ++ [(lp, W.listOf #[.int 0 v0, .int 0 v1, .int a9 v2, .int b9 v3, .int c9 v4] 0), (ln, W.listOf #[.str (Str.ofString "a") u0, .str (Str.ofString "b") u1, .str (Str.ofString "ab") u2, .str (Str.ofString "ba") u3, .str (Str.ofString "bab") u4] 0), (lc, W.listOf #[.int z0 t0, .int z1 t1, .int z2 t2] n0), (206, tabObj #[])])) ∧ o1'.data = .cell (some (.ref ln)) ∧ o2'.data = .cell (some (.ref lp)) :=
    ⟨_, _, _, _, _, _, _, _, _, _, _, _, _, _, N2, d1, d2⟩
  obtain ⟨lm, om, lp, ln, v0, v1, v2, v3, v4, u0, u1, u2, u3, u4, N3, e1, e2⟩ := z1q
  have h6 : ∀ {p : Addr} {vs : Array Value} {n : Nat}, (p, W.listOf vs n) ∈ [(lp, W.listOf #[.int 0 v0, .int 0 v1, .int a9 v2, .int b9 v3, .int c9 v4] 0), (ln, W.listOf #[.str (Str.ofString "a") u0, .str (Str.ofString "b") u1, .str (Str.ofString "ab") u2, .str (Str.ofString "ba") u3, .str (Str.ofString "bab") u4] 0), (lc, W.listOf #[.int z0 t0, .int z1 t1, .int z2 t2] n0)] → p ≠ 206 := by
    intro p vs n hp e
    have q1 := (N3 (p, W.listOf vs n) ((fun (q : ∀ z ∈ _, z ∈ _) => q _ hp) (by walk_at "SUB"))).1
    have q2 := (N3 (206, tabObj #[]) (by walk_at "INS")).1
    rw [e] at q1
    rw [show (206, tabObj #[]).1 = ((206 : Addr), W.listOf vs n).1 from rfl] at q2
    rw [q1] at q2
    have := Option.some.inj q2
    cases this
  refine ⟨rfl, ⟨_, o1', o2', [(Str.ofString "a", u0), (Str.ofString "b", u1), (Str.ofString "ab", u2), (Str.ofString "ba", u3), (Str.ofString "bab", u4)], [(0, v0), (0, v1), (a9, v2), (b9, v3), (c9, v4)], mk, tm, _, ln, lp, lc, z0, z1, z2, t0, t1, t2, a9, b9, c9,
    ⟨fun h => h, rfl, rfl⟩, F2, N3.perm (news' := cellsL L o1' o2' o3 o4 o5 o6 o7 o8 o9 ++ ((206, tabObj #[]) :: [(lp, W.listOf #[.int 0 v0, .int 0 v1, .int a9 v2, .int b9 v3, .int c9 v4] 0), (ln, W.listOf #[.str (Str.ofString "a") u0, .str (Str.ofString "b") u1, .str (Str.ofString "ab") u2, .str (Str.ofString "ba") u3, .str (Str.ofString "bab") u4] 0), (lc, W.listOf #[.int z0 t0, .int z1 t1, .int z2 t2] n0)])) (by walk_at "SUB"), NoCell.list (NoCell.list (NoCell.list NoCell.nil)), ?_, e1, e2, rfl, rfl, hmk, fun h H => ⟨_, H _ (List.mem_cons_of_mem _ (List.mem_cons_self ..)), rfl, _, rfl⟩, rfl, fun h H => ⟨_, H _ (List.mem_cons_self ..), rfl, _, rfl⟩, rfl, ha9, hb9, hc9, fun h H => ⟨_, H _ (List.mem_cons_of_mem _ (List.mem_cons_of_mem _ (List.mem_cons_self ..))), rfl, _, rfl⟩, hz1, hz2⟩⟩
  intro p hp
  simp only [List.mem_cons, List.not_mem_nil, or_false] at hp
  rcases hp with rfl | rfl | rfl
  · exact h6 (List.mem_cons_self ..)
  · exact h6 (List.mem_cons_of_mem _ (List.mem_cons_self ..))
  · exact h6 (List.mem_cons_of_mem _ (List.mem_cons_of_mem _ (List.mem_cons_self ..)))
end SN24
section R8
set_option hygiene false in
local macro_rules | `(tactic| walk_at "CR") => `(tactic| (k_here; (fail_if_success (with_reducible show wpAny _ _ (call (Value.ref 211) _) _ _ _)); refine Stop.out ?_))
set_option hygiene false in
local macro_rules | `(tactic| walk_at "SN") => `(tactic| (k_here; refine st_stop (by decide +kernel) ?_))
local macro_rules | `(tactic| walk_at "eval ListComp") => `(tactic| walk_at "STOP")
local macro_rules | `(tactic| walk_at "exec Assign cons ListComp") => `(tactic| walk_at "STOP")
local macro_rules | `(tactic| walk_at "call ref") => `(tactic| walk_at "CR")
local macro_rules | `(tactic| walk_at "storeName") => `(tactic| walk_at "SN")
local macro_rules | `(tactic| walk_at "subscriptTail Name Slice ref ref") => `(tactic| walk_at "STOP")
local macro_rules | `(tactic| walk_at "subscriptTail Name Name ref int") => `(tactic| walk_at "STOP")
local macro_rules | `(tactic| walk_at "subscriptTail Name Name ref str") => `(tactic| walk_at "STOP")
section SN25
set_option maxHeartbeats 8000000
def pairF (ks vs : List Str) (x : Str) : Option Str := ((ks.zip vs).find? fun kv => kv.1 = x).map (·.2)
theorem fv_is : ∀ (ks : List Str) (qs : List (Str × Tok)), FvIs (valueAt (ks.zip (strValues qs))) (pairF ks (qs.map (·.1)))
  | [], qs, x => .inl ⟨rfl, rfl⟩
  | k :: ks, [], x => .inl ⟨rfl, rfl⟩
  | k :: ks, (q, t) :: qs, x => by
    by_cases h : k = x
    · refine .inr ⟨q, t, ?_, ?_⟩
      · simp [valueAt, strValues, h]
      · simp [pairF, h]
    · rcases fv_is ks qs x with ⟨h1, h2⟩ | ⟨p, t', h1, h2⟩
      · refine .inl ⟨?_, ?_⟩
        · simpa [valueAt, strValues, h] using h1
        · simpa [pairF, h] using h2
      · refine .inr ⟨p, t', ?_, ?_⟩
        · simpa [valueAt, strValues, h] using h1
        · simpa [pairF, h] using h2
def parF (a b c : Nat) : Str → Option Str := pairF [nameK 1, nameK 2, nameK 3, nameK 4] [nameK 0, nameK a, nameK b, nameK c]
def CHt (a b c : Nat) (i : Nat) : List Str := chainL (parF a b c) 4 [nameK i]
structure ChainsAt (w : World) (led : Led) (C : Addr) (fc : Str → Option Value) (CH : Nat → List Str) : Prop where
  map : Sure led fun h => h.MapOf (PySem.strKind Challenge.pw_wv0033_01 w) C fc
  at_ : ∀ i < 5, ∃ l cs, fc (nameK i) = some (.ref l) ∧ (Sure led fun h => h.IsList l (strValues cs).toArray) ∧ cs.map (·.1) = CH i
theorem Sure.mono {l l' : Led} {P : Heap → Prop} (h : Sure l P) (hs : ∀ p ∈ l, p ∈ l') : Sure l' P := fun x H => h x fun p hp => H p (hs p hp)
theorem ChainsAt.mono {w : World} {l l' : Led} {C : Addr} {fc : Str → Option Value} {CH : Nat → List Str} (x : ChainsAt w l C fc CH) (hs : ∀ p ∈ l, p ∈ l') : ChainsAt w l' C fc CH :=
  ⟨Sure.mono x.map hs, fun i hi => let ⟨a, b, c, d, e⟩ := x.at_ i hi; ⟨a, b, c, Sure.mono d hs, e⟩⟩
structure StB (w : World) (h₀ : Heap) (L : Addr) (m : Str → Option Value) (o1 o2 o5 o6 o7 o8 o9 : Obj) (others : Led) (ta tb tc : Nat) (s s' : Shared) : Prop where
  out : ∃ treeV o3 o4 S C fc tab others', Same s s' ∧ Fr h₀ L s'.heap (fun y => if y = Str.ofString "tree" then some treeV else m y) ∧ News h₀ L s'.heap (cellsL L o1 o2 o3 o4 o5 o6 o7 o8 o9 ++ others') ∧ NoCell others' ∧ (∀ p ∈ others, p ∈ others') ∧ (206, tabObj tab) ∈ others' ∧
    o3.data = .cell (some (.ref S)) ∧ o4.data = .cell (some (.ref C)) ∧ (Sure others' fun h => IsLead h S) ∧ ChainsAt w others' C fc (CHt ta tb tc)
def selPos (i : Nat) : Pos := ([⟨106, 8, 106, 18⟩, ⟨106, 21, 106, 35⟩, ⟨106, 36, 106, 43⟩, ⟨106, 21, 106, 44⟩, ⟨106, 8, 106, 44⟩, ⟨107, 8, 107, 18⟩, ⟨107, 21, 107, 23⟩, ⟨107, 8, 107, 23⟩, ⟨108, 12, 108, 16⟩, ⟨108, 20, 108, 26⟩, ⟨108, 8, 113, 32⟩, ⟨109, 15, 109, 19⟩, ⟨109, 23, 109, 33⟩, ⟨109, 15, 109, 33⟩, ⟨110, 16, 110, 22⟩, ⟨110, 25, 110, 35⟩, ⟨110, 36, 110, 40⟩, ⟨110, 25, 110, 41⟩, ⟨110, 16, 110, 41⟩, ⟨111, 19, 111, 25⟩, ⟨111, 33, 111, 43⟩, ⟨111, 19, 111, 43⟩, ⟨112, 20, 112, 30⟩, ⟨112, 31, 112, 37⟩, ⟨112, 20, 112, 38⟩, ⟨112, 41, 112, 45⟩, ⟨112, 20, 112, 45⟩, ⟨113, 26, 113, 32⟩, ⟨113, 20, 113, 32⟩, ⟨113, 20, 113, 32⟩, ⟨111, 16, 113, 32⟩, ⟨109, 12, 113, 32⟩] : List Pos).getD i ⟨0, 0, 0, 0⟩
theorem name_item (t0 t1 t2 t3 t4 : Tok) {k : Nat} (h : k < 5) : ∃ u, (strValues [(nameK 0, t0), (nameK 1, t1), (nameK 2, t2), (nameK 3, t3), (nameK 4, t4)]).toArray[k]? = some (.str (nameK k) u) := by
  rcases (by omega : k = 0 ∨ k = 1 ∨ k = 2 ∨ k = 3 ∨ k = 4) with rfl | rfl | rfl | rfl | rfl <;> exact ⟨_, rfl⟩
theorem no_cell_dict {prog : Program} {w : World} {K : Type} [DecidableEq K] {knd : KeyKind prog w K} {h : Heap} {d : Addr} {od : Obj} {kvs : List (K × Value)} (hd : h.get? d = some od) (x : h.DictOf knd d kvs) : ∀ v, od.data ≠ .cell v := by
  intro v e
  obtain ⟨o, es, ep, ho, hex, hdt, _⟩ := x
  rw [hd] at ho
  rw [← Option.some.inj ho, e] at hdt
  cases hdt
theorem ne_up {a b : Nat} (h : a < b) : ¬ b = a := fun e => Nat.lt_irrefl a (e ▸ h)
theorem segB {w : World} {mean : ExcName → Option Value} {mg mb : Str → Option Value} {h₀ : Heap} {L a : Addr} {cd : Value} {m : Str → Option Value} {s : Shared} {E : Value → Shared → Prop} {o1 o2 o3 o4 o5 o6 o7 o8 o9 : Obj} {others : Led} {ln lp : Addr} {ns : List (Str × Tok)} {ks : List (Nat × Tok)} {ta tb tc : Nat}
    (B : Below callerA h₀ [] h₀) (F : Fr h₀ L s.heap m) (X : (hd.heap_1 w.params).In h₀)
    (N : News h₀ L s.heap (cellsL L o1 o2 o3 o4 o5 o6 o7 o8 o9 ++ ((206, tabObj #[]) :: others))) (no : NoCell others) (n206 : ∀ p ∈ others, p.1 ≠ 206)
    (T : Top topProg looseG mean mg mb h₀) (hcode : CodeHd h₀ 210 206) (h206 : 206 < L)
    (e1 : o1.data = .cell (some (.ref ln))) (e2 : o2.data = .cell (some (.ref lp))) (e3 : o3.data = .cell none) (e4 : o4.data = .cell none)
    (hns : Sure others fun h => h.IsList ln (strValues ns).toArray) (hnm : ns.map (·.1) = NAMES) (hps : Sure others fun h => h.IsList lp (intsOf ks)) (hpm : ks.map (·.1) = tree ta tb tc) (hta : ta < 2) (htb : tb < 3) (htc : tc < 4) :
    wpAny (model Challenge.pw_wv0033_01 w) (lawA L a cd) (execs ((lawDef.1.drop 4).take 3) (lawEnv L a cd)) (Mid fun f s' => f = .next ∧ StB w h₀ L m o1 o2 o5 o6 o7 o8 o9 others ta tb tc s s') E s := by
  revert w mean mg mb h₀ L a cd m s E o1 o2 o3 o4 o5 o6 o7 o8 o9 others ln lp ns ks ta tb tc
  intro PK w mean mg mb h₀ L a cd m s E o1 o2 o3 o4 o5 o6 o7 o8 o9 others ln lp ns ks ta tb tc
  intro B F X N no n206 T hcode h206 e1 e2 e3 e4 hns hnm hps hpm hta htb htc
  walk_at "MINE fill"
  conv in List.drop _ _ => whnf
  simp only [List.take_succ_cons, List.take_zero]
  have h206' : @LT.lt Nat _ 206 L := h206
  have h206q := Nat.lt_succ_of_lt h206'
  have N1 : News h₀ L s.heap ((206, tabObj #[]) :: (cellsL L o1 o2 o3 o4 o5 o6 o7 o8 o9 ++ others)) := N.perm (by walk_at "SUB")
  clear N
  have hr : ∀ p ∈ cellsL L o1 o2 o3 o4 o5 o6 o7 o8 o9 ++ others, p.1 ≠ 206 := by
    intro p hp
    rcases List.mem_append.mp hp with hp | hp
    · exact ((all_c (ne_up h206q) (all_c (ne_up (Nat.lt_succ_of_lt h206q)) (all_c (ne_up (Nat.lt_succ_of_lt (Nat.lt_succ_of_lt h206q))) (all_c (ne_up (Nat.lt_succ_of_lt (Nat.lt_succ_of_lt (Nat.lt_succ_of_lt h206q)))) (all_c (ne_up (Nat.lt_succ_of_lt (Nat.lt_succ_of_lt (Nat.lt_succ_of_lt (Nat.lt_succ_of_lt h206q))))) (all_c (ne_up (Nat.lt_succ_of_lt (Nat.lt_succ_of_lt (Nat.lt_succ_of_lt (Nat.lt_succ_of_lt (Nat.lt_succ_of_lt h206q)))))) (all_c (ne_up (Nat.lt_succ_of_lt (Nat.lt_succ_of_lt (Nat.lt_succ_of_lt (Nat.lt_succ_of_lt (Nat.lt_succ_of_lt (Nat.lt_succ_of_lt h206q))))))) (all_c (ne_up (Nat.lt_succ_of_lt (Nat.lt_succ_of_lt (Nat.lt_succ_of_lt (Nat.lt_succ_of_lt (Nat.lt_succ_of_lt (Nat.lt_succ_of_lt (Nat.lt_succ_of_lt h206q)))))))) (all_c (ne_up (Nat.lt_succ_of_lt (Nat.lt_succ_of_lt (Nat.lt_succ_of_lt (Nat.lt_succ_of_lt (Nat.lt_succ_of_lt (Nat.lt_succ_of_lt (Nat.lt_succ_of_lt (Nat.lt_succ_of_lt h206q))))))))) all_n))))))))) : ∀ p ∈ cellsL L o1 o2 o3 o4 o5 o6 o7 o8 o9, p.1 ≠ 206) p hp
    · exact n206 p hp
  generalize hrest : cellsL L o1 o2 o3 o4 o5 o6 o7 o8 o9 ++ others = rest at N1 hr
  k_steps
  walk_at "MINE data"
  rename Fr h₀ L _ _ => F2
  rename News h₀ L _ _ => N2
  rename_i fS cS oS vS tS ct dc hA tkA dA dB lA lB hB FB NB Tc kX
  have z1q : ∃ oF tab, News h₀ L hB ((fS, oF) :: (cS, oS) :: (206, tabObj tab) :: rest) ∧ (∀ h : Heap, h.get? fS = some oF → h.get? cS = some oS → IsLead h fS) ∧ ∀ v, oF.data ≠ .cell v := by
    refine ⟨_, _, N2, fun h q1 q2 => ?_, fun v e => by cases e⟩
    refine ⟨_, _, selPos, 0, q1, rfl, rfl, rfl, rfl, rfl, rfl, ⟨cS, oS, vS, tS, rfl, q2, dA, dB⟩, fun x y => ?_⟩
    kernel_rfl
  obtain ⟨oF, tab, N3, hlead, hoF⟩ := z1q
  clear N2
  subst hrest
  have N4 : News h₀ L hB (cellsL L o1 o2 o3 o4 o5 o6 o7 o8 o9 ++ ((fS, oF) :: (cS, oS) :: (206, tabObj tab) :: others)) := N3.perm (by walk_at "SUB")
  have no1 : NoCell ((fS, oF) :: (cS, oS) :: (206, tabObj tab) :: others) := NoCell.cons hoF (NoCell.cons (fun v e => by rw [dA] at e; cases e) (NoCell.cons (fun v e => by cases e) no))
  have hS1 : Sure ((fS, oF) :: (cS, oS) :: (206, tabObj tab) :: others) fun h => IsLead h fS := fun h H => hlead h (H _ (List.mem_cons_self ..)) (H _ (List.mem_cons_of_mem _ (List.mem_cons_self ..)))
  clear N3 hlead FB NB hA Tc kX lA lB dB N1 hr
  have hS2 : ∀ {P : Heap → Prop}, Sure others P → Sure ((fS, oF) :: (cS, oS) :: (206, tabObj tab) :: others) P := fun hP h H => hP h fun q hq => H q (List.mem_cons_of_mem _ (List.mem_cons_of_mem _ (List.mem_cons_of_mem _ hq)))
  have hns := hS2 hns
  have hps := hS2 hps
  have h206in : ∃ tabx, (206, tabObj tabx) ∈ (fS, oF) :: (cS, oS) :: (206, tabObj tab) :: others := ⟨tab, by simp⟩
  generalize hO1 : (fS, oF) :: (cS, oS) :: (206, tabObj tab) :: others = O1 at N4 no1 hS1 hns hps h206in
  refine Stop.mk (st_lead F2 N4 no1 e3 fun h6 o3' F6 N6 d3 => ?_)
  clear F2 N4
  have z2q : ∃ t0 t1 t2 t3 t4, ns = [(nameK 0, t0), (nameK 1, t1), (nameK 2, t2), (nameK 3, t3), (nameK 4, t4)] := prs5 hnm
  obtain ⟨t0, t1, t2, t3, t4, rfl⟩ := z2q
  have z3q : ∃ k0 k1 k2 k3 k4, ks = [(0, k0), (0, k1), (ta, k2), (tb, k3), (tc, k4)] := prs5 hpm
  obtain ⟨k0, k1, k2, k3, k4, rfl⟩ := z3q
  k_steps
  walk_at "MINE data"
  rename Fr h₀ L _ _ => F7
  rename News h₀ L _ _ => N7
  refine Stop.mk (slice_N (lo := some 1) (hi := none) (st := none) F7 N7 (fun b o e => Heap.get?_push_of_some _ e) (hns _ fun p hp => (N7 p (List.mem_append_right _ hp)).1) (Heap.IsSliceOf.new ..) (.int _ _) .none .none (by decide) (slice_tail _ _ _ _ _) (by simp [strValues, sizeLine]) ?_)
  intro D8 h8' hk8 F8 N8 lD8
  dsimp only
  clear F7 N7
  k_steps
  walk_at "MINE data"
  refine Stop.mk (Comp_N rfl rfl (by decide) ?_)
  k_steps
  walk_at "MINE data"
  rename Fr h₀ L _ _ => F9
  rename News h₀ L _ _ => N9
  refine Stop.mk (slice_N (lo := some 1) (hi := none) (st := none) F9 N9 (fun b o e => Heap.get?_push_of_some _ e) (hps _ fun p hp => (N9 p (List.mem_cons_of_mem _ (List.mem_append_right _ hp))).1) (Heap.IsSliceOf.new ..) (.int _ _) .none .none (by decide) (slice_tail _ _ _ _ _) (by simp [sizeLine]) ?_)
  intro D9 h9' hk9 F10 N10 lD9
  dsimp only
  clear F9 N9
  have hl9 : h9'.IsList D9 (intsOf [(0, k1), (ta, k2), (tb, k3), (tc, k4)]) := ⟨_, (N10 _ (List.mem_cons_self ..)).1, rfl, _, rfl⟩
  have hbn : ∀ j ∈ [(0, k1), (ta, k2), (tb, k3), (tc, k4)], j.1 < 5 := by
    intro j hj
    simp only [List.mem_cons, List.not_mem_nil, or_false] at hj
    rcases hj with rfl | rfl | rfl | rfl <;> dsimp only <;> omega
  have N11 := N10.perm (news' := (D8, W.listOf #[.str (nameK 1) t1, .str (nameK 2) t2, .str (nameK 3) t3, .str (nameK 4) t4] 0) :: (cellsL L o1 o2 o3' o4 o5 o6 o7 o8 o9 ++ O1)) fun p hp => List.mem_cons_of_mem _ hp
  clear N10
  generalize hks : [(0, k1), (ta, k2), (tb, k3), (tc, k4)] = ks' at hl9 hbn
  refine comp_listH (fun i ys nx => nx = (D8, W.listOf #[.str (nameK 1) t1, .str (nameK 2) t2, .str (nameK 3) t3, .str (nameK 4) t4] 0) :: (cellsL L o1 o2 o3' o4 o5 o6 o7 o8 o9 ++ O1) ∧ ∃ qs : List (Str × Tok), ys = strValues qs ∧ qs.map (·.1) = (ks'.take i).map fun j => nameK j.1)
    rfl (by decide) rfl rfl F10 N11 hl9 (list_ne_ns hl9 F10.ns) (by rw [← hks]; simp) ⟨rfl, [], rfl, rfl⟩ ?_ ?_
  · intro j v ys mc nx h₄ tk₄ own2 C9 wr' E' hj z4q ha2 hw2 how2 hmo2 F₂ N₂ hn2 hCo2 hb2 hls2
    obtain ⟨rfl, qs, rfl, hqs⟩ := z4q
    try dsimp only at F₂ N₂ hn2 hls2 ⊢
    have hjn : j < ks'.length := by
      have := (Array.getElem?_eq_some_iff.mp hj).1; simpa using this
    obtain rfl : .int ((ks'[j]'hjn).1 : Int) (ks'[j]'hjn).2 = v := Option.some.inj ((item_int hjn).symm.trans hj)
    have hjs : ks'[j]? = some (ks'[j]'hjn) := List.getElem?_eq_getElem hjn
    have hj5 := hbn _ (List.getElem_mem hjn)
    generalize ks'[j]'hjn = kq at hb2 hj5 hjs
    obtain ⟨kk, kt⟩ := kq
    dsimp only at hb2 hj5 hjs
    have hc1 : Heap.IsCell h₄ (L + 1) (some (.ref ln)) := ⟨o1, (N₂ (L + 1, o1) (by walk_at "INS")).1, e1⟩
    have hnl := hns h₄ fun p hp => (N₂ p (List.mem_append_left _ (List.mem_cons_of_mem _ (List.mem_append_right _ hp)))).1
    refine wpAny_tests_nil ?_
    rw [if_pos rfl]
    k_steps
    walk_at "MINE data"
    obtain ⟨u9, hu9⟩ := name_item t0 t1 t2 t3 t4 hj5
    refine Stop.mk (item_list hnl (Int.natCast_nonneg _) (by omega) (by rw [Int.toNat_natCast]; exact hu9) ?_)
    refine ⟨_, _, ht_mk, F₂, N₂, ha2, rfl, rfl, qs ++ [(nameK kk, u9)], by simp [strValues], ?_⟩
    rw [List.map_append, hqs, List.take_add_one, hjs]
    simp
  · intro ys nn nx h₄ tk₄ Dl F₂ N₂ hDl z5q
    obtain ⟨rfl, qs, rfl, hqs⟩ := z5q
    try dsimp only at F₂ N₂ ⊢
    have hql : qs.length = 4 := by
      have := congrArg List.length hqs
      rw [← hks] at this
      simpa using this
    clear N11 F10
    k_steps
    walk_at "MINE data"
    rename Fr h₀ L _ _ => F12
    rename News h₀ L _ _ => N12
    refine Stop.mk ((context_ok w (l1 := D8) (l2 := Dl) (ps := [(nameK 1, t1), (nameK 2, t2), (nameK 3, t3), (nameK 4, t4)]) (vs := strValues qs) (fun h H => ⟨_, H _ (List.mem_cons_of_mem _ (List.mem_cons_self ..)), rfl, _, rfl⟩) (fun h H => ⟨_, H _ (List.mem_cons_self ..), rfl, _, rfl⟩) (by simp [strValues, hql]) (show [nameK 1, nameK 2, nameK 3, nameK 4].Nodup by decide +kernel) (by walk_at "INS")).useL (Nat.le_of_ble_eq_true rfl) (Nat.le_of_ble_eq_true rfl) B F12 X N12 T rfl fun v5 nx5 h5 tk5 hv F13 N13 => ?_)
    obtain ⟨c, dd, d, u1, u2, od, rfl, rfl, hds, _, hdic⟩ := hv
    clear F12 N12
    k_steps
    walk_at "MINE data"
    rename Fr h₀ L _ _ => F14
    rename News h₀ L _ _ => N14
    have N15 : News h₀ L _ (cellsL L o1 o2 o3' o4 o5 o6 o7 o8 o9 ++ ((c, ctxObj dd) :: (dd, ctxDict w d u1 u2) :: (d, od) :: O1)) := front3 (N14.perm (by walk_at "SUB"))
    have hdg := (N14 (d, od) (by walk_at "IN")).1
    have hod : ∀ v, od.data ≠ .cell v := no_cell_dict hdg (hdic _ hdg)
    have no2 : NoCell ((c, ctxObj dd) :: (dd, ctxDict w d u1 u2) :: (d, od) :: O1) := NoCell.cons (fun v e => by cases e) (NoCell.cons (fun v e => by cases e) (NoCell.cons hod no1))
    have hq4 : qs.map (·.1) = [nameK 0, nameK ta, nameK tb, nameK tc] := by
      rw [hqs, ← hks]; rfl
    clear N14
    have up : ∀ {P : Heap → Prop}, Sure O1 P → Sure (cellsL L o1 o2 o3' o4 o5 o6 o7 o8 o9 ++ ((c, ctxObj dd) :: (dd, ctxDict w d u1 u2) :: (d, od) :: O1)) P := fun hP => Sure.mono hP fun p hp => List.mem_append_right _ (List.mem_cons_of_mem _ (List.mem_cons_of_mem _ (List.mem_cons_of_mem _ hp)))
    refine Stop.mk ((chains_ok w (S := fS) (c := c) (dd := dd) (d := d) (ln := ln) (t₁ := u1) (t₂ := u2) (fv := valueAt ([nameK 1, nameK 2, nameK 3, nameK 4].zip (strValues qs))) (F := parF ta tb tc) (ns := [(nameK 0, t0), (nameK 1, t1), (nameK 2, t2), (nameK 3, t3), (nameK 4, t4)]) (up hS1)
      (fun h H => ⟨H (c, ctxObj dd) (by walk_at "INS"), H (dd, ctxDict w d u1 u2) (by walk_at "INS")⟩) (fun h H => (hdic h (H (d, od) (by walk_at "INS"))).mapOf) (up hns) (by rw [show parF ta tb tc = pairF [nameK 1, nameK 2, nameK 3, nameK 4] (qs.map (·.1)) from by rw [hq4]; rfl]; exact fv_is _ _) hds (by walk_at "INS") (show [nameK 0, nameK 1, nameK 2, nameK 3, nameK 4].Nodup by decide +kernel)).useL (Nat.le_of_ble_eq_true rfl) (Nat.le_of_ble_eq_true rfl) B F14 X N15 T rfl fun v5 nx5 s5 hv hsm F16 N16 => ?_)
    obtain ⟨C, oC, cs, rfl, rfl, hdc, hcs⟩ := hv
    clear F14 N15
    have N17 : News h₀ L s5.heap (cellsL L o1 o2 o3' o4 o5 o6 o7 o8 o9 ++ ((C, oC) :: (ledOf cs ++ ((c, ctxObj dd) :: (dd, ctxDict w d u1 u2) :: (d, od) :: O1)))) := N16.perm (by walk_at "SUB")
    clear N16
    have hoC : ∀ v, oC.data ≠ .cell v := by
      intro v e
      obtain ⟨es, ep, hex, hdt, _⟩ := hdc
      rw [e] at hdt
      cases hdt
    have no3 : NoCell ((C, oC) :: (ledOf cs ++ ((c, ctxObj dd) :: (dd, ctxDict w d u1 u2) :: (d, od) :: O1))) := NoCell.cons hoC (NoCell.append (fun p hp v e => by
      obtain ⟨q, _, rfl⟩ := List.mem_map.mp hp
      cases e) no2)
    k_steps
    walk_at "MINE data"
    refine Stop.mk (st_chains F16 N17 no3 e4 fun h6 o4' F18 N18 d4 => ?_)
    obtain ⟨tab9, ht9⟩ := h206in
    have sub : ∀ p ∈ O1, p ∈ (C, oC) :: (ledOf cs ++ ((c, ctxObj dd) :: (dd, ctxDict w d u1 u2) :: (d, od) :: O1)) := fun p hp => List.mem_cons_of_mem _ (List.mem_append_right _ (List.mem_cons_of_mem _ (List.mem_cons_of_mem _ (List.mem_cons_of_mem _ hp))))
    try walk_at "QK"
    refine wpAny_execs_nil ⟨rfl, ⟨.ref c, o3', o4', fS, C, _, tab9, _, ⟨hsm.bare, hsm.drawn, hsm.os⟩, F18, N18, no3, fun p hp => sub p (by rw [← hO1]; exact List.mem_cons_of_mem _ (List.mem_cons_of_mem _ (List.mem_cons_of_mem _ hp))), sub _ ht9, d3, d4, Sure.mono hS1 sub, ⟨fun h H => (Heap.dictOf_iff.mpr ⟨oC, H _ (List.mem_cons_self ..), hdc⟩).mapOf, ?_⟩⟩⟩
    have z6q : ∃ q0 q1 q2 q3 q4, cs = [q0, q1, q2, q3, q4] := five_of (by simpa using congrArg List.length hcs)
    obtain ⟨q0, q1, q2, q3, q4, rfl⟩ := z6q
    simp only [List.map_cons, List.map_nil, List.cons.injEq, and_true] at hcs
    obtain ⟨g0, g1, g2, g3, g4⟩ := hcs
    intro i hi
    rcases (by omega : i = 0 ∨ i = 1 ∨ i = 2 ∨ i = 3 ∨ i = 4) with rfl | rfl | rfl | rfl | rfl
    · exact ⟨q0.1, q0.2.1, rfl, fun h H => ⟨_, H (q0.1, listObj q0.2.1 q0.2.2) (List.mem_cons_of_mem _ (List.mem_append_left _ (.head _))), rfl, _, rfl⟩, g0⟩
    · exact ⟨q1.1, q1.2.1, rfl, fun h H => ⟨_, H (q1.1, listObj q1.2.1 q1.2.2) (List.mem_cons_of_mem _ (List.mem_append_left _ (.tail _ (.head _)))), rfl, _, rfl⟩, g1⟩
    · exact ⟨q2.1, q2.2.1, rfl, fun h H => ⟨_, H (q2.1, listObj q2.2.1 q2.2.2) (List.mem_cons_of_mem _ (List.mem_append_left _ (.tail _ (.tail _ (.head _))))), rfl, _, rfl⟩, g2⟩
    · exact ⟨q3.1, q3.2.1, rfl, fun h H => ⟨_, H (q3.1, listObj q3.2.1 q3.2.2) (List.mem_cons_of_mem _ (List.mem_append_left _ (.tail _ (.tail _ (.tail _ (.head _)))))), rfl, _, rfl⟩, g3⟩
    · exact ⟨q4.1, q4.2.1, rfl, fun h H => ⟨_, H (q4.1, listObj q4.2.1 q4.2.2) (List.mem_cons_of_mem _ (List.mem_append_left _ (.tail _ (.tail _ (.tail _ (.tail _ (.head _))))))), rfl, _, rfl⟩, g4⟩
end SN25
section SN26
set_option maxHeartbeats 8000000
local macro_rules | `(tactic| walk_at "compareOp NotEq ref ref") => `(tactic| walk_at "STOP")
structure StSame (h₀ : Heap) (L : Addr) (m : Str → Option Value) (led : Led) (s s' : Shared) : Prop where
  same : Same s s'
  fr : Fr h₀ L s'.heap m
  news : News h₀ L s'.heap led
theorem two_map {α β γ : Type} {R : α → β → Prop} (f : γ → α) (g : γ → β) : ∀ l : List γ, (∀ x ∈ l, R (f x) (g x)) → Two R (l.map f) (l.map g)
  | [], _ => .nil
  | x :: l, h => .cons (h x (List.mem_cons_self ..)) (two_map f g l fun y hy => h y (List.mem_cons_of_mem _ hy))
theorem par_below {a b c : Nat} (ha : a < 2) (hb : b < 3) (hc : c < 4) : ∀ k, 0 < k → (tree a b c).getD k 0 < k := by
  intro k hk
  match k with
  | 1 => show 0 < 1; omega
  | 2 => show a < 2; omega
  | 3 => show b < 3; omega
  | 4 => show c < 4; omega
  | k + 5 => show 0 < k + 5; omega
theorem segC {w : World} {mean : ExcName → Option Value} {mg mb : Str → Option Value} {h₀ : Heap} {L a : Addr} {cd : Value} {m : Str → Option Value} {s : Shared} {E : Value → Shared → Prop} {o1 o2 o3 o4 o5 o6 o7 o8 o9 : Obj} {others : Led} {ln lp C : Addr} {fc : Str → Option Value} {ns : List (Str × Tok)} {ks : List (Nat × Tok)} {ta tb tc : Nat} {CH : Nat → List Str}
    (B : Below callerA h₀ [] h₀) (F : Fr h₀ L s.heap m) (X : (hd.heap_1 w.params).In h₀)
    (N : News h₀ L s.heap (cellsL L o1 o2 o3 o4 o5 o6 o7 o8 o9 ++ others)) (T : Top topProg looseG mean mg mb h₀)
    (e1 : o1.data = .cell (some (.ref ln))) (e2 : o2.data = .cell (some (.ref lp))) (e4 : o4.data = .cell (some (.ref C)))
    (hns : Sure others fun h => h.IsList ln (strValues ns).toArray) (hnm : ns.map (·.1) = NAMES) (hps : Sure others fun h => h.IsList lp (intsOf ks)) (hpm : ks.map (·.1) = tree ta tb tc) (hta : ta < 2) (htb : tb < 3) (htc : tc < 4)
    (hC : ChainsAt w others C fc CH) (hch : ∀ i < 5, CH i = (climb (tree ta tb tc) i i).map nameK) (hok : ∀ i < 5, StrOks (CH i)) :
    wpAny (model Challenge.pw_wv0033_01 w) (lawA L a cd) (execs ((lawDef.1.drop 7).take 1) (lawEnv L a cd)) (Mid fun f s' => f = .next ∧ StSame h₀ L m (cellsL L o1 o2 o3 o4 o5 o6 o7 o8 o9 ++ others) s s') E s := by
  revert w mean mg mb h₀ L a cd m s E o1 o2 o3 o4 o5 o6 o7 o8 o9 others ln lp C fc ns ks ta tb tc CH
  intro PK w mean mg mb h₀ L a cd m s E o1 o2 o3 o4 o5 o6 o7 o8 o9 others ln lp C fc ns ks ta tb tc CH
  intro B F X N T e1 e2 e4 hns hnm hps hpm hta htb htc hC hch hok
  walk_at "MINE fill"
  conv in List.drop _ _ => whnf
  simp only [List.take_succ_cons, List.take_zero]
  have z1q : ∃ (la : Nat → Addr) (cs : Nat → List (Str × Tok)), ∀ i < 5, fc (nameK i) = some (.ref (la i)) ∧ (Sure others fun h => h.IsList (la i) (strValues (cs i)).toArray) ∧ (cs i).map (·.1) = CH i := by
    have q : ∀ i, ∃ l cs, i < 5 → fc (nameK i) = some (.ref l) ∧ (Sure others fun h => h.IsList l (strValues cs).toArray) ∧ cs.map (·.1) = CH i := fun i => by
      by_cases hi : i < 5
      · obtain ⟨l, cs, h⟩ := hC.at_ i hi; exact ⟨l, cs, fun _ => h⟩
      · exact ⟨0, [], fun h => absurd h hi⟩
    exact ⟨fun i => (q i).choose, fun i => (q i).choose_spec.choose, fun i hi => (q i).choose_spec.choose_spec hi⟩
  obtain ⟨la, cs, hla⟩ := z1q
  have hnl : ns.length = 5 := by simpa using congrArg List.length hnm
  have hkl : ks.length = 5 := by simpa using congrArg List.length hpm
  k_steps
  walk_at "MINE data"
  refine Stop.mk (Comp_N rfl rfl (by decide) ?_)
  k_steps
  walk_at "MINE data"
  rename Fr h₀ L _ _ => F1
  rename News h₀ L _ _ => N1
  refine Stop.mk ?_
  have hl1 := hns _ fun p hp => (N1 p (List.mem_append_right _ hp)).1
  refine comp_listH (fun i ys nx => nx = cellsL L o1 o2 o3 o4 o5 o6 o7 o8 o9 ++ others ∧ ys = (List.range i).map fun i => .ref (la i))
    rfl (by decide) rfl rfl F1 N1 hl1 (list_ne_ns hl1 F1.ns) (by simp [strValues, hnl]) ⟨rfl, rfl⟩ ?_ ?_
  · intro j v ys mc nx h₄ tk₄ own2 C9 wr' E' hj z2q ha2 hw2 how2 hmo2 F₂ N₂ hn2 hCo2 hb2 hls2
    obtain ⟨rfl, rfl⟩ := z2q
    try dsimp only at F₂ N₂ hn2 hls2 ⊢
    have hjn : j < ns.length := by
      have := (Array.getElem?_eq_some_iff.mp hj).1; simpa [strValues] using this
    obtain rfl : .str (ns[j]'hjn).1 (ns[j]'hjn).2 = v := Option.some.inj ((item_str hjn).symm.trans hj)
    have hnj : (ns[j]'hjn).1 = nameK j := by
      have : (ns.map (·.1))[j]? = some (ns[j]'hjn).1 := by rw [List.getElem?_map, List.getElem?_eq_getElem hjn]; rfl
      rw [hnm] at this
      unfold nameK
      rw [List.getD_eq_getElem?_getD, this]; rfl
    rw [hnj] at hb2
    have hc4 : Heap.IsCell h₄ (L + 1 + 1 + 1 + 1) (some (.ref C)) := ⟨o4, (N₂ (L + 1 + 1 + 1 + 1, o4) (by walk_at "INS")).1, e4⟩
    have hmC := hC.map h₄ fun p hp => (N₂ p (List.mem_append_left _ (List.mem_append_right _ hp))).1
    refine wpAny_tests_nil ?_
    rw [if_pos rfl]
    k_steps
    walk_at "MINE data"
    refine Stop.mk (tail_any (s := { s with heap := h₄, toks := tk₄ }) hmC.typeIs slot_dict_getitem.lookup (wpAny_getItem_of (knd := PySem.strKind Challenge.pw_wv0033_01 w) (k := nameK j) (by simp [PySem.strKind, Value.isStrOf]) hmC (hla j (by omega)).1 ?_) (by with_unfolding_all rfl))
    refine ⟨_, _, ht_mk, F₂, N₂, ha2, rfl, rfl, ?_⟩
    rw [List.range_succ, List.map_append]; rfl
  · intro ys nn nx h₄ tk₄ Dl F₂ N₂ hDl z3q
    obtain ⟨rfl, rfl⟩ := z3q
    try dsimp only at F₂ N₂ ⊢
    clear F1 N1
    have hsz5 : (strValues ns).toArray.size = 5 := by simp [strValues, hnl]
    rw [hsz5] at N₂
    k_steps
    walk_at "MINE data"
    refine Stop.mk (Comp_N rfl rfl (by decide) ?_)
    k_steps
    walk_at "MINE data"
    refine Stop.mk ?_
    rename Fr h₀ L _ _ => F3
    rename News h₀ L _ _ => N3
    have hnA : nameAt ns = nameK := by funext k; unfold nameAt nameK; rw [hnm]
    refine comp_range (b := 5) restHT (fun i ys nx => ∃ ds : List (Addr × List (Str × Tok) × Nat), nx = ledOf ds ++ ((Dl, W.listOf (List.map (fun i => Value.ref (la i)) (List.range 5)).toArray nn) :: (cellsL L o1 o2 o3 o4 o5 o6 o7 o8 o9 ++ others)) ∧ ys = ds.map (fun d => .ref d.1) ∧ (ds.map fun d => d.2.1.map (·.1)) = (List.range i).map CH)
      rfl (by decide) rfl rfl F3 N3 (by decide) ⟨[], rfl, rfl, rfl⟩ ?_ ?_
    · intro j tj ys mc nx s₂ own2 C9 wr' E' hj z4q ha2 hw2 how2 hmo2 hr2 F₂ N₂ hn2 hCo2 hb2
      obtain ⟨ds, rfl, rfl, hds⟩ := z4q
      obtain ⟨h₅, tk₅, rfl⟩ := hr2
      dsimp only at F₂ N₂ hn2 ⊢
      have hc1 : Heap.IsCell h₅ (L + 1) (some (.ref ln)) := ⟨o1, (N₂ (L + 1, o1) (by walk_at "INS")).1, e1⟩
      have hc2 : Heap.IsCell h₅ (L + 1 + 1) (some (.ref lp)) := ⟨o2, (N₂ (L + 1 + 1, o2) (by walk_at "INS")).1, e2⟩
      refine wpAny_tests_nil ?_
      rw [if_pos rfl]
      k_steps
      walk_at "MINE data"
      refine Stop.mk ?_
      have up : ∀ {P : Heap → Prop}, Sure others P → Sure (ledOf ds ++ ((Dl, W.listOf (List.map (fun i => Value.ref (la i)) (List.range 5)).toArray nn) :: (cellsL L o1 o2 o3 o4 o5 o6 o7 o8 o9 ++ others)) ++ own2) P := fun hP => Sure.mono hP fun p hp => List.mem_append_left _ (List.mem_append_right _ (List.mem_cons_of_mem _ (List.mem_append_right _ hp)))
      refine (due_ok w (ln := ln) (lp := lp) (ns := ns) (ks := ks) (k₀ := j) (t := tj) hj (up hns) hnl (up hps) hkl (by rw [hpm]; exact par_below hta htb htc)).useL (Nat.le_of_ble_eq_true rfl) (Nat.le_of_ble_eq_true rfl) B F₂ X N₂ T rfl fun v5 nx5 h5 tk5 hv F5 N5 => ?_
      obtain ⟨a9, ts, n9, rfl, rfl, hts, hfr⟩ := hv
      clear F₂ N₂
      k_steps
      walk_at "MINE data"
      refine ⟨_, ledOf ((ds ++ [(a9, ts, n9)])) ++ ((Dl, W.listOf (List.map (fun i => Value.ref (la i)) (List.range 5)).toArray nn) :: (cellsL L o1 o2 o3 o4 o5 o6 o7 o8 o9 ++ others)), ht_mk, F5, N5.perm fun p hp => ?_, fun p hp hw => ?_, rfl, ds ++ [(a9, ts, n9)], rfl, by simp, ?_⟩
      · (revert hp; revert p; (try simp only [ledOf, List.map_append, List.map_cons, List.map_nil]); walk_at "SUB")
      · simp only [ledOf, List.map_append, List.map_cons, List.map_nil, List.append_assoc] at hp
        rcases List.mem_append.mp hp with hp | hp
        · exact ha2 p (List.mem_append_left _ hp) hw
        · rcases List.mem_append.mp hp with hp | hp
          · obtain rfl : p = (a9, listObj ts n9) := by simpa using hp
            obtain ⟨o, ho⟩ := hmo2 _ hw
            exact hfr _ (List.mem_append_right _ ho) rfl
          · exact ha2 p (List.mem_append_right _ hp) hw
      · rw [List.map_append, hds, List.range_succ, List.map_append, List.map_cons, List.map_nil, List.map_cons, List.map_nil]
        dsimp only
        rw [hts, hnA, hpm, hch j hj]
    · intro ys n2 nx s₂ Dr hr2 F₂ N₂ hDr z5q
      obtain ⟨ds, rfl, rfl, hds⟩ := z5q
      obtain ⟨h₅, tk₅, rfl⟩ := hr2
      dsimp only at F₂ N₂ ⊢
      clear F3 N3
      k_steps
      walk_at "MINE data"
      have h5l : Two (fun l cs => Heap.IsList h₅ l (strValues cs).toArray) ((List.range 5).map la) ((List.range 5).map cs) := two_map la cs _ fun i hi => (hla i (List.mem_range.mp hi)).2.1 h₅ fun p hp => (N₂ p (List.mem_cons_of_mem _ (List.mem_append_right _ (List.mem_cons_of_mem _ (List.mem_append_right _ hp))))).1
      have h5r : Two (fun l cs => Heap.IsList h₅ l (strValues cs).toArray) (ds.map (·.1)) (ds.map (·.2.1)) := two_map (fun d => d.1) (fun d => d.2.1) ds fun d hd => ⟨_, (N₂ (d.1, listObj d.2.1 d.2.2) (List.mem_cons_of_mem _ (List.mem_append_left _ (List.mem_map_of_mem hd)))).1, rfl, _, rfl⟩
      have q1 : (List.map (fun cs => cs.map (·.1)) ((List.range 5).map cs)) = (List.range 5).map CH := by
        rw [List.map_map]
        exact List.map_congr_left fun i hi => (hla i (List.mem_range.mp hi)).2.2
      have q2 : (List.map (fun cs => cs.map (·.1)) (ds.map (·.2.1))) = (List.range 5).map CH := by
        rw [List.map_map]; exact hds
      have okk : ∀ l ∈ (List.range 5).map CH, StrOks l := by
        intro l hl
        obtain ⟨i, hi, rfl⟩ := List.mem_map.mp hl
        exact hok i (List.mem_range.mp hi)
      refine Stop.mk (ne_textss (la := (List.range 5).map la) (lb := ds.map (·.1)) (css := (List.range 5).map cs) (dss := ds.map (·.2.1)) ⟨_, (N₂ (Dl, _) (List.mem_cons_of_mem _ (List.mem_append_right _ (List.mem_cons_self ..)))).1, rfl, nn, by rw [List.map_map]; rfl⟩ ⟨_, (N₂ (Dr, _) (List.mem_cons_self ..)).1, rfl, n2, by rw [List.map_map]; rfl⟩ h5l h5r (by rw [q1]; exact okk) (by rw [q2]; exact okk) (Nat.le_of_ble_eq_true rfl) ?_)
      rw [q1, q2, decide_eq_true rfl]
      have N6 := N₂.perm (news' := cellsL L o1 o2 o3 o4 o5 o6 o7 o8 o9 ++ others) fun p hp => List.mem_cons_of_mem _ (List.mem_append_right _ (List.mem_cons_of_mem _ hp))
      clear N₂
      k_steps
      walk_at "MINE data"
      exact ⟨rfl, ⟨fun h => h, rfl, rfl⟩, F₂, N6⟩
end SN26
section SN28
set_option maxHeartbeats 8000000
local macro_rules | `(tactic| walk_at "compareOp NotEq ref ref") => `(tactic| walk_at "STOP")
local macro_rules | `(tactic| walk_at "PAD0") => `(tactic| skip)
theorem segD {w : World} {mean : ExcName → Option Value} {mg mb : Str → Option Value} {h₀ : Heap} {L a : Addr} {cd : Value} {m : Str → Option Value} {s : Shared} {E : Value → Shared → Prop} {o1 o2 o3 o4 o5 o6 o7 o8 o9 : Obj} {others : Led} {ln S : Addr} {ns : List (Str × Tok)}
    (B : Below callerA h₀ [] h₀) (F : Fr h₀ L s.heap m) (X : (hd.heap_1 w.params).In h₀)
    (N : News h₀ L s.heap (cellsL L o1 o2 o3 o4 o5 o6 o7 o8 o9 ++ others)) (T : Top topProg looseG mean mg mb h₀)
    (e1 : o1.data = .cell (some (.ref ln))) (e3 : o3.data = .cell (some (.ref S)))
    (hns : Sure others fun h => h.IsList ln (strValues ns).toArray) (hnm : ns.map (·.1) = NAMES) (hS : Sure others fun h => IsLead h S) :
    wpAny (model Challenge.pw_wv0033_01 w) (lawA L a cd) (execs ((lawDef.1.drop 8).take 1) (lawEnv L a cd)) (Mid fun f s' => f = .next ∧ StSame h₀ L m (cellsL L o1 o2 o3 o4 o5 o6 o7 o8 o9 ++ others) s s') E s := by
  revert w mean mg mb h₀ L a cd m s E o1 o2 o3 o4 o5 o6 o7 o8 o9 others ln S ns
  intro PK w mean mg mb h₀ L a cd m s E o1 o2 o3 o4 o5 o6 o7 o8 o9 others ln S ns
  intro B F X N T e1 e3 hns hnm hS
  walk_at "MINE fill"
  conv in List.drop _ _ => whnf
  simp only [List.take_succ_cons, List.take_zero]
  have hnl : ns.length = 5 := by simpa using congrArg List.length hnm
  k_steps
  walk_at "MINE data"
  rename Fr h₀ L _ _ => F1
  rename News h₀ L _ _ => N1
  rename_i la _ _ _ _ lb _ _ _ _
  refine Stop.mk ((context_ok w (l1 := la) (l2 := lb) (ps := []) (vs := []) (fun h H => ⟨_, H _ (List.mem_cons_of_mem _ (List.mem_cons_self ..)), rfl, _, rfl⟩) (fun h H => ⟨_, H _ (List.mem_cons_self ..), rfl, _, rfl⟩) rfl List.nodup_nil (by decide)).useL (Nat.le_of_ble_eq_true rfl) (Nat.le_of_ble_eq_true rfl) B F1 X N1 T rfl fun v5 nx5 h5 tk5 hv F5 N5 => ?_)
  obtain ⟨c, dd, d, u1, u2, od, rfl, rfl, hds, _, hdic⟩ := hv
  have N6 := front3 (N5.perm (news' := (c, ctxObj dd) :: (dd, ctxDict w d u1 u2) :: (d, od) :: (cellsL L o1 o2 o3 o4 o5 o6 o7 o8 o9 ++ others)) (by walk_at "SUB"))
  clear F1 N1 N5
  k_steps
  walk_at "MINE data"
  rename Fr h₀ L _ _ => F7
  rename News h₀ L _ _ => N7
  have up : ∀ {P : Heap → Prop}, Sure others P → Sure (cellsL L o1 o2 o3 o4 o5 o6 o7 o8 o9 ++ ((c, ctxObj dd) :: (dd, ctxDict w d u1 u2) :: (d, od) :: others)) P := fun hP => Sure.mono hP fun p hp => List.mem_append_right _ (List.mem_cons_of_mem _ (List.mem_cons_of_mem _ (List.mem_cons_of_mem _ hp)))
  refine Stop.mk ((led_ok w (S := S) (c := c) (dd := dd) (d := d) (l := ln) (t₁ := u1) (t₂ := u2) (fv := valueAt (([] : List Str).zip (strValues []))) (F := pairF [] []) (ps := ns) (up hS)
      (fun h H => ⟨H (c, ctxObj dd) (by walk_at "INS"), H (dd, ctxDict w d u1 u2) (by walk_at "INS")⟩) (fun h H => (hdic h (H (d, od) (by walk_at "INS"))).mapOf) (up hns) (fv_is [] []) hds (by omega)).useL (Nat.le_of_ble_eq_true rfl) (Nat.le_of_ble_eq_true rfl) B F7 X N7 T rfl fun v5 nx5 s5 hv hsm F8 N8 => ?_)
  obtain ⟨a9, ts, n9, rfl, rfl, hts⟩ := hv
  have hts0 : ts = [] := by
    have : (ns.filterMap fun p => pairF [] [] p.1) = [] := by
      rw [List.filterMap_eq_nil_iff]; intro p _; rfl
    rw [this] at hts
    exact List.map_eq_nil_iff.mp hts
  subst hts0
  clear F7 N7
  k_steps
  walk_at "MINE data"
  rename Fr h₀ L _ _ => F9
  rename News h₀ L _ _ => N9
  refine Stop.mk (ne_texts (ts := []) (us := []) ⟨_, (N9 (a9, _) (List.mem_cons_of_mem _ (List.mem_cons_self ..))).1, rfl, _, rfl⟩ ⟨_, (N9 _ (List.mem_cons_self ..)).1, rfl, _, rfl⟩ (fun _ h => nomatch h) (fun _ h => nomatch h) (Nat.le_of_ble_eq_true rfl) ?_)
  rw [decide_eq_true rfl]
  k_steps
  walk_at "MINE data"
  exact ⟨rfl, ⟨hsm.bare, hsm.drawn, hsm.os⟩, F9, N9.perm (by walk_at "SUB")⟩
end SN28
section SN29
set_option maxHeartbeats 8000000
local macro_rules | `(tactic| walk_at "compareOp NotEq ref ref") => `(tactic| walk_at "STOP")
set_option hygiene false in
local macro_rules | `(tactic| walk_at "pyIter ref") => `(tactic| (k_here; (with_reducible show wpAny _ _ (pyIter (Value.ref _)) (Mine.CompBodyP _ _ _ _ _ _ _ _ _ _ _ _ _) _ _); refine Stop.out ?_))
local macro_rules | `(tactic| walk_at "PAD0") => `(tactic| skip)
def digN (z : Int) (k : Nat) : Nat := ((z.fdiv (5 ^ k)).fmod 5).toNat
theorem digN_lt (z : Int) (k : Nat) : digN z k < 5 := by
  unfold digN
  rw [Int.fmod_eq_emod_of_nonneg _ (by decide)]
  omega
theorem digN_eq (z : Int) (k : Nat) : (z.fdiv (5 ^ k)).fmod 5 = (digN z k : Int) := by
  unfold digN
  rw [Int.fmod_eq_emod_of_nonneg _ (by decide)]
  omega
theorem snoc_int {z X : Int} {k : Nat} {qs : List (Nat × Tok)} {tok : Tok} (h : X = (digN z k : Int)) (hqs : qs.map (·.1) = (List.range k).map (digN z)) :
    ∃ qs' : List (Nat × Tok), qs.map (fun q => Value.int (q.1 : Int) q.2) ++ [Value.int X tok] = qs'.map (fun q => Value.int (q.1 : Int) q.2) ∧ qs'.map (·.1) = (List.range (k + 1)).map (digN z) :=
  ⟨qs ++ [(digN z k, tok)], by rw [List.map_append, h]; rfl, by rw [List.map_append, hqs, List.range_succ, List.map_append]; rfl⟩
abbrev rowsLed (rs : List (Addr × List (Nat × Tok) × Nat)) : Led := rs.map fun r => (r.1, W.listOf (intsOf r.2.1) r.2.2)
structure StE (h₀ : Heap) (L : Addr) (m : Str → Option Value) (o1 o2 o3 o4 o6 o7 o8 o9 : Obj) (others : Led) (z1 z2 : Int) (s s' : Shared) : Prop where
  out : ∃ o5 le n r1 r2 k1 k2 n1 n2, Same s s' ∧ Fr h₀ L s'.heap m ∧ News h₀ L s'.heap (cellsL L o1 o2 o3 o4 o5 o6 o7 o8 o9 ++ ((le, W.listOf #[.ref r1, .ref r2] n) :: (r1, W.listOf (intsOf k1) n1) :: (r2, W.listOf (intsOf k2) n2) :: others)) ∧
    (∀ p ∈ (r1, W.listOf (intsOf k1) n1) :: (r2, W.listOf (intsOf k2) n2) :: others, p.1 ≠ le) ∧ o5.data = .cell (some (.ref le)) ∧ k1.map (·.1) = (List.range 5).map (digN z1) ∧ k2.map (·.1) = (List.range 5).map (digN z2)
theorem segE {w : World} {mean : ExcName → Option Value} {mg mb : Str → Option Value} {h₀ : Heap} {L a : Addr} {cd : Value} {m : Str → Option Value} {s : Shared} {E : Value → Shared → Prop} {o1 o2 o3 o4 o5 o6 o7 o8 o9 : Obj} {others : Led} {lc : Addr} {z0 z1 z2 : Int} {t0 t1 t2 : Tok}
    (B : Below callerA h₀ [] h₀) (F : Fr h₀ L s.heap m) (X : (hd.heap_1 w.params).In h₀)
    (N : News h₀ L s.heap (cellsL L o1 o2 o3 o4 o5 o6 o7 o8 o9 ++ others)) (no : NoCell others) (T : Top topProg looseG mean mg mb h₀)
    (e5 : o5.data = .cell none) (hmc : m (Str.ofString "cells") = some (.ref lc)) (hlc : Sure others fun h => h.IsList lc #[.int z0 t0, .int z1 t1, .int z2 t2]) (b1 : 0 ≤ z1 ∧ z1 ≤ 100000000) (b2 : 0 ≤ z2 ∧ z2 ≤ 100000000) :
    wpAny (model Challenge.pw_wv0033_01 w) (lawA L a cd) (execs ((lawDef.1.drop 9).take 1) (lawEnv L a cd)) (Mid fun f s' => f = .next ∧ StE h₀ L m o1 o2 o3 o4 o6 o7 o8 o9 others z1 z2 s s') E s := by
  revert w mean mg mb h₀ L a cd m s E o1 o2 o3 o4 o5 o6 o7 o8 o9 others lc z0 z1 z2 t0 t1 t2
  intro PK w mean mg mb h₀ L a cd m s E o1 o2 o3 o4 o5 o6 o7 o8 o9 others lc z0 z1 z2 t0 t1 t2
  intro B F X N no T e5 hmc hlc b1 b2
  walk_at "MINE fill"
  conv in List.drop _ _ => whnf
  simp only [List.take_succ_cons, List.take_zero]
  k_steps
  walk_at "MINE data"
  refine Stop.mk (wpAny_Assign_Name ?_ (by with_unfolding_all rfl))
  k_steps
  walk_at "MINE data"
  refine Stop.mk (Comp_P rfl rfl (by decide) ?_)
  k_steps
  walk_at "MINE data"
  rename Fr h₀ L _ _ => F1
  rename News h₀ L _ _ => N1
  refine Stop.mk (slice_N (lo := some 1) (hi := none) (st := none) F1 N1 (fun b o e => Heap.get?_push_of_some _ e) (hlc _ fun p hp => (N1 p (List.mem_append_right _ hp)).1) (Heap.IsSliceOf.new ..) (.int _ _) .none .none (by decide) (out := #[.int z1 t1, .int z2 t2]) (by kernel_rfl) (by simp [sizeLine]) ?_)
  intro D9 h9' hk9 F10 N10 lD9
  dsimp only
  clear F1 N1
  have hl9 : h9'.IsList D9 #[.int z1 t1, .int z2 t2] := ⟨_, (N10 _ (List.mem_cons_self ..)).1, rfl, _, rfl⟩
  refine comp_listX restHT (fun i ys nx => ∃ rs : List (Addr × List (Nat × Tok) × Nat), nx = rowsLed rs ++ (cellsL L o1 o2 o3 o4 o5 o6 o7 o8 o9 ++ others) ∧ ys = rs.map (fun r => .ref r.1) ∧ (rs.map fun r => r.2.1.map (·.1)) = ([z1, z2].take i).map fun z => (List.range 5).map (digN z))
    rfl (fun _ => rfl) (fun _ => rfl) rfl rfl F10 (N10.perm fun p hp => List.mem_cons_of_mem _ hp) hl9 (list_ne_ns hl9 F10.ns) (by walk_at "INS") ⟨[], rfl, rfl, rfl⟩ ?_ ?_
  · intro j v ys mc nx s₂ own2 C9 kc wr' E' hj z1q ha2 hw2 how2 hmo2 hr2 F₂ N₂ hn2 z2q hls2
    obtain ⟨rs, rfl, rfl, hrs⟩ := z1q
    obtain ⟨oc, hoc, hod⟩ := z2q
    obtain ⟨h₄, tk₄, rfl⟩ := hr2
    dsimp only at F₂ N₂ hn2 hls2 ⊢
    have z3q : ∃ z tz, v = .int z tz ∧ [z1, z2][j]? = some z ∧ (0 ≤ z ∧ z ≤ 100000000) := by
      rcases (by have := (Array.getElem?_eq_some_iff.mp hj).1; simp at this; omega : j = 0 ∨ j = 1) with rfl | rfl
      · exact ⟨z1, t1, (Option.some.inj hj).symm, rfl, b1⟩
      · exact ⟨z2, t2, (Option.some.inj hj).symm, rfl, b2⟩
    obtain ⟨z, tz, rfl, hzj, hbz⟩ := z3q
    refine wpAny_tests_nil ?_
    rw [if_pos rfl]
    k_steps
    walk_at "MINE data"
    refine Stop.mk (Comp_N rfl rfl (by decide) ?_)
    k_steps
    walk_at "MINE data"
    refine Stop.mk ?_
    generalize hnx : rowsLed rs ++ (cellsL L o1 o2 o3 o4 o5 o6 o7 o8 o9 ++ others) = nx at N₂ ha2
    refine comp_range (b := 5) restHT (fun i ys nx' => nx' = nx ++ own2 ∧ ∃ qs : List (Nat × Tok), ys = qs.map (fun q => Value.int (q.1 : Int) q.2) ∧ qs.map (·.1) = (List.range i).map (digN z))
      rfl (by decide) rfl rfl F₂ N₂ (by decide) ⟨rfl, [], rfl, rfl⟩ ?_ ?_
    · intro k tk ys mc3 nx3 s₃ own3 C3 wr3 E3 hk z4q ha3 hw3 how3 hmo3 hr3 F₃ N₃ hn3 hCo3 hb3
      obtain ⟨rfl, qs, rfl, hqs⟩ := z4q
      obtain ⟨h₅, tk₅, rfl⟩ := hr3
      dsimp only at F₃ N₃ hn3 ⊢
      have hcc : Heap.IsCell h₅ kc (some (.int z tz)) := ⟨oc, (N₃ (kc, oc) (List.mem_append_left _ (List.mem_append_right _ hoc))).1, hod⟩
      refine wpAny_tests_nil ?_
      rw [if_pos rfl]
      rcases (by omega : k = 0 ∨ k = 1 ∨ k = 2 ∨ k = 3 ∨ k = 4) with rfl | rfl | rfl | rfl | rfl
      · rw [show ((0 : Nat) : Int) = 0 from rfl] at hb3
        k_steps
        walk_at "MINE data"
        exact ⟨_, _, ht_mk, F₃, N₃, ha3, rfl, rfl, snoc_int (digN_eq z 0) hqs⟩
      · rw [show ((1 : Nat) : Int) = 1 from rfl] at hb3
        k_steps
        walk_at "MINE data"
        exact ⟨_, _, ht_mk, F₃, N₃, ha3, rfl, rfl, snoc_int (digN_eq z 1) hqs⟩
      · rw [show ((2 : Nat) : Int) = 2 from rfl] at hb3
        k_steps
        walk_at "MINE data"
        exact ⟨_, _, ht_mk, F₃, N₃, ha3, rfl, rfl, snoc_int (digN_eq z 2) hqs⟩
      · rw [show ((3 : Nat) : Int) = 3 from rfl] at hb3
        k_steps
        walk_at "MINE data"
        exact ⟨_, _, ht_mk, F₃, N₃, ha3, rfl, rfl, snoc_int (digN_eq z 3) hqs⟩
      · rw [show ((4 : Nat) : Int) = 4 from rfl] at hb3
        k_steps
        walk_at "MINE data"
        exact ⟨_, _, ht_mk, F₃, N₃, ha3, rfl, rfl, snoc_int (digN_eq z 4) hqs⟩
    · intro ys nn nx4 s₃ Dl hr3 F₃ N₃ hDl z5q
      obtain ⟨rfl, qs, rfl, hqs⟩ := z5q
      obtain ⟨h₅, tk₅, rfl⟩ := hr3
      dsimp only at F₃ N₃ ⊢
      refine ⟨_, rowsLed (rs ++ [(Dl, qs, nn)]) ++ (cellsL L o1 o2 o3 o4 o5 o6 o7 o8 o9 ++ others), ht_mk, F₃, N₃.perm fun p hp => ?_, fun p hp hw => ?_, rfl, rs ++ [(Dl, qs, nn)], rfl, by simp, ?_⟩
      · rw [← hnx]
        (revert hp; revert p; (try simp only [rowsLed, List.map_append, List.map_cons, List.map_nil]); walk_at "SUB")
      · simp only [rowsLed, List.map_append, List.map_cons, List.map_nil, List.append_assoc] at hp
        rcases List.mem_append.mp hp with hp | hp
        · exact ha2 p (by rw [← hnx]; exact List.mem_append_left _ hp) hw
        · rcases List.mem_append.mp hp with hp | hp
          · obtain rfl : p = (Dl, W.listOf (intsOf qs) nn) := by simpa using hp
            obtain ⟨o, ho⟩ := hmo2 _ hw
            exact hDl _ (List.mem_append_right _ ho) rfl
          · exact ha2 p (by rw [← hnx]; exact List.mem_append_right _ hp) hw
      · rw [List.map_append, hrs, List.take_add_one, hzj, Option.toList_some, List.map_append]
        simp [hqs]
  · intro ys nn mc nx s₂ Dl C hr2 F₂ N₂ hDl hC hLC h0C hn2 z6q
    obtain ⟨rs, rfl, rfl, hrs⟩ := z6q
    obtain ⟨h₄, tk₄, rfl⟩ := hr2
    refine postN F₂ N₂ hC hLC h0C hn2 fun h5 F5 N5 => ?_
    have z7q : ∃ a b, rs = [a, b] := two_of (by simpa using congrArg List.length hrs)
    obtain ⟨⟨r1, k1, n1⟩, ⟨r2, k2, n2⟩, rfl⟩ := z7q
    simp only [List.map_cons, List.map_nil, List.size_toArray, List.length_cons, List.length_nil, Nat.zero_add, Nat.reduceAdd, List.take_succ_cons, List.take_zero, List.cons.injEq, and_true] at hrs
    obtain ⟨g1, g2⟩ := hrs
    have N6 : News h₀ L h5 (cellsL L o1 o2 o3 o4 o5 o6 o7 o8 o9 ++ ((Dl, W.listOf #[.ref r1, .ref r2] nn) :: (r1, W.listOf (intsOf k1) n1) :: (r2, W.listOf (intsOf k2) n2) :: others)) := N5.perm fun p hp => by (revert hp; revert p; (try simp only [rowsLed, List.map_cons, List.map_nil]); walk_at "SUB")
    clear N5
    refine st_ends F5 N6 (NoCell.list (NoCell.list (NoCell.list no))) e5 fun h6 o5' F7 N7 d5 => ?_
    try walk_at "QK"
    refine wpAny_execs_nil ⟨rfl, ⟨o5', Dl, nn, r1, r2, k1, k2, n1, n2, ⟨fun h => h, rfl, rfl⟩, F7, N7, fun p hp => hDl p ?_, d5, g1, g2⟩⟩
    (revert hp; revert p; (try simp only [rowsLed, List.map_cons, List.map_nil]); walk_at "SUB")
end SN29
section SN30
set_option maxHeartbeats 8000000
local macro_rules | `(tactic| walk_at "compareOp NotEq ref ref") => `(tactic| walk_at "STOP")
structure Cr where
  c : Addr
  dd : Addr
  d : Addr
  u1 : Tok
  u2 : Tok
  od : Obj
abbrev crLed (w : World) (x : Cr) : Led := [(x.c, ctxObj x.dd), (x.dd, ctxDict w x.d x.u1 x.u2), (x.d, x.od)]
def mapF (f : Nat → Nat) : Str → Option Str := pairF NAMES ((List.range 5).map fun k => nameK (f k))
structure CrOk (w : World) (x : Cr) (f : Nat → Nat) : Prop where
  sys : (x.d == sysModules) = false
  cell : ∀ v, x.od.data ≠ .cell v
  map : ∃ qs : List (Str × Tok), (∀ h : Heap, h.get? x.d = some x.od → h.DictOf (PySem.strKind Challenge.pw_wv0033_01 w) x.d (NAMES.zip (strValues qs))) ∧ qs.map (·.1) = (List.range 5).map fun k => nameK (f k)
structure CtxAt (w : World) (led : Led) (c : Addr) (F : Str → Option Str) : Prop where
  out : ∃ dd d u1 u2 fv, (Sure led fun h => IsCtx w h c dd d u1 u2) ∧ (Sure led fun h => h.MapOf (PySem.strKind Challenge.pw_wv0033_01 w) d fv) ∧ FvIs fv F ∧ (d == sysModules) = false
theorem CtxAt.mono {w : World} {l l' : Led} {c : Addr} {F : Str → Option Str} (x : CtxAt w l c F) (hs : ∀ p ∈ l, p ∈ l') : CtxAt w l' c F :=
  let ⟨a, b, c, d, e, h1, h2, h3, h4⟩ := x.out; ⟨a, b, c, d, e, Sure.mono h1 hs, Sure.mono h2 hs, h3, h4⟩
theorem CrOk.at_ {w : World} {x : Cr} {f : Nat → Nat} (k : CrOk w x f) {led : Led} (hs : ∀ p ∈ crLed w x, p ∈ led) : CtxAt w led x.c (mapF f) := by
  obtain ⟨qs, h1, h2⟩ := k.map
  refine ⟨x.dd, x.d, x.u1, x.u2, valueAt (NAMES.zip (strValues qs)), fun h H => ⟨H (x.c, ctxObj x.dd) (hs _ (List.mem_cons_self ..)), H (x.dd, ctxDict w x.d x.u1 x.u2) (hs _ (List.mem_cons_of_mem _ (List.mem_cons_self ..)))⟩, fun h H => (h1 h (H (x.d, x.od) (hs _ (List.mem_cons_of_mem _ (List.mem_cons_of_mem _ (List.mem_cons_self ..)))))).mapOf, ?_, k.sys⟩
  unfold mapF
  rw [← h2]
  exact fv_is _ _
theorem Two.snoc {α β : Type} {R : α → β → Prop} : ∀ {l : List α} {r : List β} {a : α} {b : β}, Two R l r → R a b → Two R (l ++ [a]) (r ++ [b])
  | _, _, _, _, .nil, h => .cons h .nil
  | _, _, _, _, .cons x t, h => .cons x (t.snoc h)
structure StF (w : World) (h₀ : Heap) (L : Addr) (m : Str → Option Value) (o1 o2 o3 o4 o5 o6 o8 o9 : Obj) (X : Addr × Obj) (others : Led) (f g : Nat → Nat) (s s' : Shared) : Prop where
  out : ∃ o7 ll c1 c2 others', Same s s' ∧ Fr h₀ L s'.heap m ∧ News h₀ L s'.heap (cellsL L o1 o2 o3 o4 o5 o6 o7 o8 o9 ++ (X :: others')) ∧ NoCell others' ∧ (∀ p ∈ others', p.1 ≠ X.1) ∧ (∀ p ∈ others, p ∈ others') ∧
    o7.data = .cell (some (.ref ll)) ∧ (Sure others' fun h => h.IsList ll #[.ref c1, .ref c2]) ∧ CtxAt w others' c1 (mapF f) ∧ CtxAt w others' c2 (mapF g)
theorem segF {w : World} {mean : ExcName → Option Value} {mg mb : Str → Option Value} {h₀ : Heap} {L a : Addr} {cd : Value} {m : Str → Option Value} {s : Shared} {E : Value → Shared → Prop} {o1 o2 o3 o4 o5 o6 o7 o8 o9 : Obj} {others : Led} {ln le r1 r2 : Addr} {n : Nat} {ns : List (Str × Tok)} {k1 k2 : List (Nat × Tok)} {f g : Nat → Nat}
    (B : Below callerA h₀ [] h₀) (F : Fr h₀ L s.heap m) (X : (hd.heap_1 w.params).In h₀)
    (N : News h₀ L s.heap (cellsL L o1 o2 o3 o4 o5 o6 o7 o8 o9 ++ ((le, W.listOf #[.ref r1, .ref r2] n) :: others))) (no : NoCell others) (nle : ∀ p ∈ others, p.1 ≠ le) (T : Top topProg looseG mean mg mb h₀)
    (e1 : o1.data = .cell (some (.ref ln))) (e5 : o5.data = .cell (some (.ref le))) (e7 : o7.data = .cell none)
    (hns : Sure others fun h => h.IsList ln (strValues ns).toArray) (hnm : ns.map (·.1) = NAMES)
    (h1 : Sure others fun h => h.IsList r1 (intsOf k1)) (h1m : k1.map (·.1) = (List.range 5).map f) (h2 : Sure others fun h => h.IsList r2 (intsOf k2)) (h2m : k2.map (·.1) = (List.range 5).map g) (hf : ∀ k, f k < 5) (hg : ∀ k, g k < 5) :
    wpAny (model Challenge.pw_wv0033_01 w) (lawA L a cd) (execs ((lawDef.1.drop 10).take 1) (lawEnv L a cd)) (Mid fun f' s' => f' = .next ∧ StF w h₀ L m o1 o2 o3 o4 o5 o6 o8 o9 (le, W.listOf #[.ref r1, .ref r2] n) others f g s s') E s := by
  revert w mean mg mb h₀ L a cd m s E o1 o2 o3 o4 o5 o6 o7 o8 o9 others ln le r1 r2 n ns k1 k2 f g
  intro PK w mean mg mb h₀ L a cd m s E o1 o2 o3 o4 o5 o6 o7 o8 o9 others ln le r1 r2 n ns k1 k2 f g
  intro B F X N no nle T e1 e5 e7 hns hnm h1 h1m h2 h2m hf hg
  walk_at "MINE fill"
  conv in List.drop _ _ => whnf
  simp only [List.take_succ_cons, List.take_zero]
  have z1q : ∃ t0 t1 t2 t3 t4, ns = [(nameK 0, t0), (nameK 1, t1), (nameK 2, t2), (nameK 3, t3), (nameK 4, t4)] := prs5 hnm
  obtain ⟨t0, t1, t2, t3, t4, rfl⟩ := z1q
  k_steps
  walk_at "MINE data"
  refine Stop.mk (wpAny_Assign_Name ?_ (by with_unfolding_all rfl))
  k_steps
  walk_at "MINE data"
  refine Stop.mk (Comp_N rfl rfl (by decide) ?_)
  k_steps
  walk_at "MINE data"
  rename Fr h₀ L _ _ => F1
  rename News h₀ L _ _ => N1
  refine Stop.mk ?_
  have hle : Heap.IsList s.heap le #[.ref r1, .ref r2] := ⟨_, (N1 (le, W.listOf #[.ref r1, .ref r2] n) (List.mem_append_right _ (List.mem_cons_self ..))).1, rfl, _, rfl⟩
  refine comp_listH (fun i ys nx => ∃ xs : List Cr, nx = xs.flatMap (crLed w) ++ (cellsL L o1 o2 o3 o4 o5 o6 o7 o8 o9 ++ ((le, W.listOf #[.ref r1, .ref r2] n) :: others)) ∧ ys = xs.map (fun x => .ref x.c) ∧ Two (CrOk w) xs ([f, g].take i) ∧ ∀ p ∈ xs.flatMap (crLed w), p.1 ≠ le)
    rfl (by decide) rfl rfl F1 N1 hle (list_ne_ns hle F1.ns) (by walk_at "INS") ⟨[], rfl, rfl, .nil, fun _ h => nomatch h⟩ ?_ ?_
  · intro j v ys mc nx h₄ tk₄ own2 C9 wr' E' hj z2q ha2 hw2 how2 hmo2 F₂ N₂ hn2 hCo2 hb2 hls2
    obtain ⟨xs, rfl, rfl, hxs, hxl⟩ := z2q
    try dsimp only at F₂ N₂ hn2 hls2 ⊢
    have z3q : ∃ rj kj fj, v = .ref rj ∧ (Sure others fun h => h.IsList rj (intsOf kj)) ∧ kj.map (·.1) = (List.range 5).map fj ∧ [f, g][j]? = some fj ∧ ∀ k, fj k < 5 := by
      rcases (by have := (Array.getElem?_eq_some_iff.mp hj).1; simp at this; omega : j = 0 ∨ j = 1) with rfl | rfl
      · exact ⟨r1, k1, f, (Option.some.inj hj).symm, h1, h1m, rfl, hf⟩
      · exact ⟨r2, k2, g, (Option.some.inj hj).symm, h2, h2m, rfl, hg⟩
    obtain ⟨rj, kj, fj, rfl, hrj, hkj, hfj, hf5⟩ := z3q
    generalize hnx : xs.flatMap (crLed w) ++ (cellsL L o1 o2 o3 o4 o5 o6 o7 o8 o9 ++ ((le, W.listOf #[.ref r1, .ref r2] n) :: others)) = nx at N₂ ha2
    have hin1 : (L + 1, o1) ∈ nx := by rw [← hnx]; simp
    have sub : ∀ p ∈ others, p ∈ nx := fun p hp => by rw [← hnx]; exact List.mem_append_right _ (List.mem_append_right _ (List.mem_cons_of_mem _ hp))
    have hc1 : Heap.IsCell h₄ (L + 1) (some (.ref ln)) := ⟨o1, (N₂ (L + 1, o1) (List.mem_append_left _ hin1)).1, e1⟩
    refine wpAny_tests_nil ?_
    rw [if_pos rfl]
    k_steps
    walk_at "MINE data"
    refine Stop.mk (Comp_N rfl rfl (by decide) ?_)
    k_steps
    walk_at "MINE data"
    refine Stop.mk ?_
    have hlr := hrj h₄ fun p hp => (N₂ p (List.mem_append_left _ (sub p hp))).1
    have hkl : kj.length = 5 := by simpa using congrArg List.length hkj
    refine comp_listH (fun i ys nx' => nx' = nx ++ own2 ∧ ∃ qs : List (Str × Tok), ys = strValues qs ∧ qs.map (·.1) = (kj.take i).map fun q => nameK q.1)
      rfl (by decide) rfl rfl F₂ N₂ hlr (list_ne_ns hlr F₂.ns) (by simp [hkl]) ⟨rfl, [], rfl, rfl⟩ ?_ ?_
    · intro i v ys mc3 nx3 h₅ tk₅ own3 C3 wr3 E3 hi z4q ha3 hw3 how3 hmo3 F₃ N₃ hn3 hCo3 hb3 hls3
      obtain ⟨rfl, qs, rfl, hqs⟩ := z4q
      try dsimp only at F₃ N₃ hn3 hls3 ⊢
      have hin : i < kj.length := by
        have := (Array.getElem?_eq_some_iff.mp hi).1; simpa using this
      obtain rfl : .int ((kj[i]'hin).1 : Int) (kj[i]'hin).2 = v := Option.some.inj ((item_int hin).symm.trans hi)
      have his : kj[i]? = some (kj[i]'hin) := List.getElem?_eq_getElem hin
      have hi5 : (kj[i]'hin).1 < 5 := by
        have : (kj[i]'hin).1 ∈ kj.map (·.1) := List.mem_map_of_mem (List.getElem_mem hin)
        rw [hkj] at this
        obtain ⟨q, _, e⟩ := List.mem_map.mp this
        rw [← e]; exact hf5 q
      generalize kj[i]'hin = kq at hb3 hi5 his
      obtain ⟨kk, kt⟩ := kq
      dsimp only at hb3 hi5 his
      have hc1 : Heap.IsCell h₅ (L + 1) (some (.ref ln)) := ⟨o1, (N₃ (L + 1, o1) (List.mem_append_left _ (List.mem_append_left _ hin1))).1, e1⟩
      have hnl := hns h₅ fun p hp => (N₃ p (List.mem_append_left _ (List.mem_append_left _ (sub p hp)))).1
      refine wpAny_tests_nil ?_
      rw [if_pos rfl]
      k_steps
      walk_at "MINE data"
      obtain ⟨u9, hu9⟩ := name_item t0 t1 t2 t3 t4 hi5
      refine Stop.mk (item_list hnl (Int.natCast_nonneg _) (by omega) (by rw [Int.toNat_natCast]; exact hu9) ?_)
      refine ⟨_, _, ht_mk, F₃, N₃, ha3, rfl, rfl, qs ++ [(nameK kk, u9)], by simp [strValues], ?_⟩
      rw [List.map_append, hqs, List.take_add_one, his]
      simp
    · intro ys nn nx4 h₅ tk₅ Dl F₃ N₃ hDl z5q
      obtain ⟨rfl, qs, rfl, hqs⟩ := z5q
      try dsimp only at F₃ N₃ ⊢
      have hqm : qs.map (·.1) = (List.range 5).map fun k => nameK (fj k) := by
        rw [hqs, List.take_of_length_le (by walk_at "INS")]
        have q9 := congrArg (List.map nameK) hkj
        rw [List.map_map, List.map_map] at q9
        exact q9
      have hql : qs.length = 5 := by simpa using congrArg List.length hqm
      clear F₂ N₂
      k_steps
      walk_at "MINE data"
      refine Stop.mk ?_
      rename Fr h₀ L _ _ => F12
      rename News h₀ L _ _ => N12
      refine (context_ok w (l1 := ln) (l2 := Dl) (ps := [(nameK 0, t0), (nameK 1, t1), (nameK 2, t2), (nameK 3, t3), (nameK 4, t4)]) (vs := strValues qs) (Sure.mono hns fun p hp => List.mem_cons_of_mem _ (List.mem_append_left _ (sub p hp))) (fun h H => ⟨_, H _ (List.mem_cons_self ..), rfl, _, rfl⟩) (by simp [strValues, hql]) (show [nameK 0, nameK 1, nameK 2, nameK 3, nameK 4].Nodup by decide +kernel) (by walk_at "INS")).useL (Nat.le_of_ble_eq_true rfl) (Nat.le_of_ble_eq_true rfl) B F12 X N12 T rfl fun v5 nx5 h5 tk5 hv F13 N13 => ?_
      obtain ⟨c, dd, d, u1, u2, od, rfl, rfl, hds, hcf, hdic⟩ := hv
      clear F12 N12
      k_steps
      walk_at "MINE data"
      have hod : ∀ v, od.data ≠ .cell v := by
        intro v e
        have q1 := (N13 (d, od) (by walk_at "INS")).1
        obtain ⟨o, es, ep, ho, hex, hdt, _⟩ := hdic _ q1
        rw [q1] at ho
        rw [← Option.some.inj ho, e] at hdt
        cases hdt
      have hok : CrOk w (Cr.mk c dd d u1 u2 od) fj := ⟨hds, hod, qs, hdic, hqm⟩
      have hlex : (le, W.listOf #[.ref r1, .ref r2] n) ∈ nx := by rw [← hnx]; simp
      have hcl := hcf _ (List.mem_cons_of_mem _ (List.mem_append_left own2 hlex))
      refine ⟨_, (xs ++ [Cr.mk c dd d u1 u2 od]).flatMap (crLed w) ++ (cellsL L o1 o2 o3 o4 o5 o6 o7 o8 o9 ++ ((le, W.listOf #[.ref r1, .ref r2] n) :: others)), ht_mk, F13, N13.perm fun p hp => ?_, fun p hp hw => ?_, rfl, xs ++ [Cr.mk c dd d u1 u2 od], rfl, by simp, ?_, ?_⟩
      · rw [← hnx]
        (revert hp; revert p; (try simp only [List.flatMap_append, List.flatMap_cons, List.flatMap_nil, crLed]); walk_at "SUB")
      · simp only [List.flatMap_append, List.flatMap_cons, List.flatMap_nil, List.append_nil, List.append_assoc] at hp
        rcases List.mem_append.mp hp with hp | hp
        · exact ha2 p (by rw [← hnx]; exact List.mem_append_left _ hp) hw
        · rcases List.mem_append.mp hp with hp | hp
          · obtain ⟨o, ho⟩ := hmo2 _ hw
            have q := hcf _ (List.mem_cons_of_mem _ (List.mem_append_right _ ho))
            simp only [crLed, List.mem_cons, List.not_mem_nil, or_false] at hp
            rcases hp with rfl | rfl | rfl
            · exact q.1 rfl
            · exact q.2.1 rfl
            · exact q.2.2 rfl
          · exact ha2 p (by rw [← hnx]; exact List.mem_append_right _ hp) hw
      · rw [List.take_add_one, hfj]
        exact hxs.snoc hok
      · intro p hp
        rw [List.flatMap_append] at hp
        rcases List.mem_append.mp hp with hp | hp
        · exact hxl p hp
        · simp only [List.flatMap_cons, List.flatMap_nil, List.append_nil, crLed, List.mem_cons, List.not_mem_nil, or_false] at hp
          rcases hp with rfl | rfl | rfl
          · exact hcl.1.symm
          · exact hcl.2.1.symm
          · exact hcl.2.2.symm
  · intro ys nn nx h₄ tk₄ Dl F₂ N₂ hDl z6q
    obtain ⟨xs, rfl, rfl, hxs, hxl⟩ := z6q
    try dsimp only at F₂ N₂ ⊢
    have z7q : ∃ x1 x2, xs = [x1, x2] ∧ CrOk w x1 f ∧ CrOk w x2 g := by
      cases hxs with
      | cons h1 r => cases r with
        | cons h2 r => cases r with
          | nil => exact ⟨_, _, rfl, h1, h2⟩
    obtain ⟨x1, x2, rfl, hx1, hx2⟩ := z7q
    have N6 : News h₀ L h₄ (cellsL L o1 o2 o3 o4 o5 o6 o7 o8 o9 ++ ((le, W.listOf #[.ref r1, .ref r2] n) :: (Dl, W.listOf #[.ref x1.c, .ref x2.c] nn) :: ((crLed w x1 ++ crLed w x2) ++ others))) := N₂.perm fun p hp => by (revert hp; revert p; (try simp only [List.flatMap_cons, List.flatMap_nil, List.append_nil, List.map_cons, List.map_nil]); walk_at "SUB")
    have hDle : le ≠ Dl := hDl (le, W.listOf #[.ref r1, .ref r2] n) (by walk_at "INS")
    clear N₂ F1 N1
    have noX : ∀ (x : Cr) (f : Nat → Nat), CrOk w x f → NoCell (crLed w x) := fun x f hx => NoCell.cons (fun v e => by cases e) (NoCell.cons (fun v e => by cases e) (NoCell.cons hx.cell NoCell.nil))
    have no9 : NoCell ((Dl, W.listOf #[.ref x1.c, .ref x2.c] nn) :: ((crLed w x1 ++ crLed w x2) ++ others)) := NoCell.list (NoCell.append (NoCell.append (noX x1 f hx1) (noX x2 g hx2)) no)
    k_steps
    walk_at "MINE data"
    refine Stop.mk (st_leads F₂ N6 (NoCell.list no9) e7 fun h6 o7' F7 N7 d7 => ?_)
    try walk_at "QK"
    refine wpAny_execs_nil ⟨rfl, ⟨o7', Dl, x1.c, x2.c, _, ⟨fun h => h, rfl, rfl⟩, F7, N7, no9, ?_, fun p hp => List.mem_cons_of_mem _ (List.mem_append_right _ hp), d7, fun h H => ⟨_, H _ (List.mem_cons_self ..), rfl, _, rfl⟩, hx1.at_ fun p hp => List.mem_cons_of_mem _ (List.mem_append_left _ (List.mem_append_left _ hp)), hx2.at_ fun p hp => List.mem_cons_of_mem _ (List.mem_append_left _ (List.mem_append_right _ hp))⟩⟩
    intro p hp
    rcases List.mem_cons.mp hp with rfl | hp
    · exact hDle.symm
    · rcases List.mem_append.mp hp with hp | hp
      · exact hxl p (by simpa using hp)
      · exact nle p hp
end SN30
section SN31
set_option maxHeartbeats 8000000
local macro_rules | `(tactic| walk_at "compareOp NotEq ref ref") => `(tactic| walk_at "STOP")
set_option hygiene false in
local macro_rules | `(tactic| walk_at "pyIter ref") => `(tactic| (k_here; (with_reducible show wpAny _ _ (pyIter (Value.ref _)) (Mine.CompBodyP _ _ _ _ _ _ _ _ _ _ _ _ _) _ _); refine Stop.out ?_))
theorem led_map (f : Nat → Nat) : (NAMES.filterMap fun x => mapF f x) = (List.range 5).map fun k => nameK (f k) := by kernel_rfl
structure StG (h₀ : Heap) (L : Addr) (m : Str → Option Value) (led : Led) (X : Addr × Obj) (others : Led) (f g : Nat → Nat) (s s' : Shared) : Prop where
  out : ∃ li n s1 s2 q1 q2 others', Same s s' ∧ Fr h₀ L s'.heap (fun y => if y = Str.ofString "images" then some (.ref li) else m y) ∧ News h₀ L s'.heap (led ++ (X :: (li, W.listOf #[.ref s1, .ref s2] n) :: others')) ∧ NoCell others' ∧ (∀ p ∈ others', p.1 ≠ X.1) ∧ (∀ p ∈ others', p.1 ≠ li) ∧ X.1 ≠ li ∧ (∀ p ∈ others, p ∈ others') ∧
    (Sure others' fun h => h.IsList s1 (strValues q1).toArray) ∧ (q1.map (·.1) = (List.range 5).map fun k => nameK (f k)) ∧ (Sure others' fun h => h.IsList s2 (strValues q2).toArray) ∧ (q2.map (·.1) = (List.range 5).map fun k => nameK (g k))
theorem segG {w : World} {mean : ExcName → Option Value} {mg mb : Str → Option Value} {h₀ : Heap} {L a : Addr} {cd : Value} {m : Str → Option Value} {s : Shared} {E : Value → Shared → Prop} {o1 o2 o3 o4 o5 o6 o7 o8 o9 : Obj} {Xe : Addr × Obj} {others : Led} {ln S ll c1 c2 : Addr} {ns : List (Str × Tok)} {f g : Nat → Nat}
    (B : Below callerA h₀ [] h₀) (F : Fr h₀ L s.heap m) (X : (hd.heap_1 w.params).In h₀)
    (N : News h₀ L s.heap (cellsL L o1 o2 o3 o4 o5 o6 o7 o8 o9 ++ (Xe :: others))) (no : NoCell others) (nle : ∀ p ∈ others, p.1 ≠ Xe.1) (T : Top topProg looseG mean mg mb h₀)
    (e1 : o1.data = .cell (some (.ref ln))) (e3 : o3.data = .cell (some (.ref S))) (e7 : o7.data = .cell (some (.ref ll)))
    (hns : Sure others fun h => h.IsList ln (strValues ns).toArray) (hnm : ns.map (·.1) = NAMES) (hS : Sure others fun h => IsLead h S)
    (hll : Sure others fun h => h.IsList ll #[.ref c1, .ref c2]) (hc1 : CtxAt w others c1 (mapF f)) (hc2 : CtxAt w others c2 (mapF g)) :
    wpAny (model Challenge.pw_wv0033_01 w) (lawA L a cd) (execs ((lawDef.1.drop 11).take 1) (lawEnv L a cd)) (Mid fun f' s' => f' = .next ∧ StG h₀ L m (cellsL L o1 o2 o3 o4 o5 o6 o7 o8 o9) Xe others f g s s') E s := by
  revert w mean mg mb h₀ L a cd m s E o1 o2 o3 o4 o5 o6 o7 o8 o9 Xe others ln S ll c1 c2 ns f g
  intro PK w mean mg mb h₀ L a cd m s E o1 o2 o3 o4 o5 o6 o7 o8 o9 Xe others ln S ll c1 c2 ns f g
  intro B F X N no nle T e1 e3 e7 hns hnm hS hll hc1 hc2
  walk_at "MINE fill"
  conv in List.drop _ _ => whnf
  simp only [List.take_succ_cons, List.take_zero]
  have hnl : ns.length = 5 := by simpa using congrArg List.length hnm
  k_steps
  walk_at "MINE data"
  refine Stop.mk (CompA_N (by with_unfolding_all rfl) rfl rfl (by decide) ?_)
  k_steps
  walk_at "MINE data"
  rename Fr h₀ L _ _ => F1
  rename News h₀ L _ _ => N1
  refine Stop.mk ?_
  have hle := hll s.heap fun p hp => (N1 p (List.mem_append_right _ (List.mem_cons_of_mem _ hp))).1
  refine comp_listP restSame (fun i ys nx => ∃ is : List (Addr × List (Str × Tok) × Nat), nx = ledOf is ++ (cellsL L o1 o2 o3 o4 o5 o6 o7 o8 o9 ++ (Xe :: others)) ∧ ys = is.map (fun x => .ref x.1) ∧ (is.map fun x => x.2.1.map (·.1)) = ([f, g].take i).map (fun f => (List.range 5).map fun k => nameK (f k)) ∧ ∀ p ∈ ledOf is, p.1 ≠ Xe.1)
    rfl (by decide) rfl rfl F1 N1 hle (list_ne_ns hle F1.ns) (by walk_at "INS") ⟨[], rfl, rfl, rfl, fun _ h => nomatch h⟩ ?_ ?_
  · intro j v ys mc nx s₂ own2 C9 wr' E' hj z1q ha2 hw2 how2 hmo2 hr2 F₂ N₂ hn2 hCo2 hb2 hls2
    obtain ⟨is, rfl, rfl, his, hil⟩ := z1q
    have z2q : ∃ cj fj, v = .ref cj ∧ CtxAt w others cj (mapF fj) ∧ [f, g][j]? = some fj := by
      rcases (by have := (Array.getElem?_eq_some_iff.mp hj).1; simp at this; omega : j = 0 ∨ j = 1) with rfl | rfl
      · exact ⟨c1, f, (Option.some.inj hj).symm, hc1, rfl⟩
      · exact ⟨c2, g, (Option.some.inj hj).symm, hc2, rfl⟩
    obtain ⟨cj, fj, rfl, hcj, hfj⟩ := z2q
    generalize hnx : ledOf is ++ (cellsL L o1 o2 o3 o4 o5 o6 o7 o8 o9 ++ (Xe :: others)) = nx at N₂ ha2
    have hin1 : (L + 1, o1) ∈ nx := by rw [← hnx]; simp
    have hin3 : (L + 1 + 1 + 1, o3) ∈ nx := by rw [← hnx]; simp
    have sub : ∀ p ∈ others, p ∈ nx := fun p hp => by rw [← hnx]; exact List.mem_append_right _ (List.mem_append_right _ (List.mem_cons_of_mem _ hp))
    have hk1 : Heap.IsCell s₂.heap (L + 1) (some (.ref ln)) := ⟨o1, (N₂ (L + 1, o1) (List.mem_append_left _ hin1)).1, e1⟩
    have hk3 : Heap.IsCell s₂.heap (L + 1 + 1 + 1) (some (.ref S)) := ⟨o3, (N₂ (L + 1 + 1 + 1, o3) (List.mem_append_left _ hin3)).1, e3⟩
    obtain ⟨h₄, gn₄, dr₄, tk₄, os₄⟩ := s₂
    dsimp only at F₂ N₂ hn2 hls2 hk1 hk3 ⊢
    refine wpAny_tests_nil ?_
    rw [if_pos rfl]
    k_steps
    walk_at "MINE data"
    refine Stop.mk ?_
    obtain ⟨dd, d, u1, u2, fv, x1, x2, x3, x4⟩ := hcj.out
    have up : ∀ {P : Heap → Prop}, Sure others P → Sure (nx ++ own2) P := fun hP => Sure.mono hP fun p hp => List.mem_append_left _ (sub p hp)
    refine (led_okF w (S := S) (c := cj) (dd := dd) (d := d) (l := ln) (t₁ := u1) (t₂ := u2) (fv := fv) (F := mapF fj) (ps := ns) (up hS) (up x1) (up x2) (up hns) x3 x4 (by omega)).useL (Nat.le_of_ble_eq_true rfl) (Nat.le_of_ble_eq_true rfl) B F₂ X N₂ T rfl fun v5 nx5 s5 hv hsm F5 N5 => ?_
    obtain ⟨a9, ts, n9, rfl, rfl, hts, hfr⟩ := hv
    have hts2 : ts.map (·.1) = (List.range 5).map fun k => nameK (fj k) := by
      rw [hts, ← led_map fj, ← hnm, List.filterMap_map]; rfl
    have hXin : Xe ∈ nx := by rw [← hnx]; simp
    clear F₂ N₂
    show StepC Same _ _ _ _ _ _ _ _
    refine ⟨_, ledOf (is ++ [(a9, ts, n9)]) ++ (cellsL L o1 o2 o3 o4 o5 o6 o7 o8 o9 ++ (Xe :: others)), hr2.trans ⟨hsm.bare, hsm.drawn, hsm.os⟩, F5, N5.perm fun p hp => ?_, fun p hp hw => ?_, rfl, is ++ [(a9, ts, n9)], rfl, by simp, ?_, ?_⟩
    · rw [← hnx]
      (revert hp; revert p; (try simp only [ledOf, List.map_append, List.map_cons, List.map_nil]); walk_at "SUB")
    · simp only [ledOf, List.map_append, List.map_cons, List.map_nil, List.append_assoc] at hp
      rcases List.mem_append.mp hp with hp | hp
      · exact ha2 p (by rw [← hnx]; exact List.mem_append_left _ hp) hw
      · rcases List.mem_append.mp hp with hp | hp
        · obtain rfl : p = (a9, listObj ts n9) := by simpa using hp
          obtain ⟨o, ho⟩ := hmo2 _ hw
          exact hfr _ (List.mem_append_right _ ho) rfl
        · exact ha2 p (by rw [← hnx]; exact List.mem_append_right _ hp) hw
    · rw [List.map_append, his, List.take_add_one, hfj, Option.toList_some, List.map_append]
      simp [hts2]
    · intro p hp
      rw [ledOf, List.map_append] at hp
      rcases List.mem_append.mp hp with hp | hp
      · exact hil p hp
      · obtain rfl : p = (a9, listObj ts n9) := by simpa using hp
        exact (hfr _ (List.mem_append_left _ hXin)).symm
  · intro ys nn mc nx s₂ Dl C hr2 F₂ N₂ hDl hC hLC h0C hn2 z3q
    obtain ⟨is, rfl, rfl, his, hil⟩ := z3q
    refine postA rfl rfl rfl F₂ N₂ hC hLC h0C hn2 fun h' tk F₃ N₃ => ?_
    have z4q : ∃ a b, is = [a, b] := two_of (by simpa using congrArg List.length his)
    obtain ⟨⟨s1, q1, n1⟩, ⟨s2, q2, n2⟩, rfl⟩ := z4q
    simp only [List.map_cons, List.map_nil, List.size_toArray, List.length_cons, List.length_nil, Nat.zero_add, Nat.reduceAdd, List.take_succ_cons, List.take_zero, List.cons.injEq, and_true] at his
    obtain ⟨g1, g2⟩ := his
    try walk_at "QK"
    refine wpAny_execs_nil ⟨rfl, ⟨Dl, nn, s1, s2, q1, q2, ledOf [(s1, q1, n1), (s2, q2, n2)] ++ others, hr2.trans ⟨fun h => h, rfl, rfl⟩, F₃, N₃.perm fun p hp => ?_, NoCell.append (NoCell.list (NoCell.list NoCell.nil)) no, fun p hp => (List.mem_append.mp hp).elim (hil p) (nle p), fun p hp => hDl p ?_, hDl Xe (by walk_at "INS"), fun p hp => List.mem_append_right _ hp, fun h H => ⟨_, H (s1, listObj q1 n1) (by simp [ledOf]), rfl, _, rfl⟩, g1, fun h H => ⟨_, H (s2, listObj q2 n2) (by simp [ledOf]), rfl, _, rfl⟩, g2⟩⟩
    · (revert hp; revert p; (try simp only [ledOf, List.map_cons, List.map_nil]); walk_at "SUB")
    · rcases List.mem_append.mp hp with hp | hp
      · exact List.mem_append_left _ hp
      · exact List.mem_append_right _ (List.mem_append_right _ (List.mem_cons_of_mem _ hp))
end SN31
section SN33
set_option maxHeartbeats 8000000
local macro_rules | `(tactic| walk_at "compareOp NotEq ref ref") => `(tactic| walk_at "STOP")
local macro_rules | `(tactic| walk_at "binaryOp Add ref ref") => `(tactic| walk_at "STOP")
local macro_rules | `(tactic| walk_at "callWith type:list") => `(tactic| walk_at "STOP")
local macro_rules | `(tactic| walk_at "callWith ref") => `(tactic| walk_at "STOP")
set_option hygiene false in
local macro_rules | `(tactic| walk_at "pyIter ref") => `(tactic| (k_here; (with_reducible show wpAny _ _ (pyIter (Value.ref _)) (Mine.CompBodyP _ _ _ _ _ _ _ _ _ _ _ _ _) _ _); refine Stop.out ?_))
local macro_rules | `(tactic| walk_at "call type:enumerate") => `(tactic| (k_here; (with_reducible show wpAny _ _ _ (fun _ _ => wpAny _ _ _ (Mine.CompBodyP _ _ _ _ _ _ _ _ _ _ _ _ _) _ _) _ _); refine Stop.out ?_))
local macro_rules | `(tactic| walk_at "exec If") => `(tactic| walk_at "STOP")
theorem s2_row {M : Model} {A : Around} {E : Value → Shared → Prop} {s : Shared} {h₀ : Heap} {L a : Addr} {cd : Value} {m : Str → Option Value} {v : Value} {Q : Unit → Shared → Prop} {others : Led} {o1 o2 o3 o4 o5 o6 o7 o8 o9 : Obj} {v₀ : Option Value}
    (F : Fr h₀ L s.heap m) (N : News h₀ L s.heap (cellsL L o1 o2 o3 o4 o5 o6 o7 o8 o9 ++ others)) (no : ∀ p ∈ others, p.1 ≠ L + 1 + 1 + 1 + 1 + 1 + 1) (hd : o6.data = .cell v₀)
    (h : ∀ h' o', Fr h₀ L h' m → News h₀ L h' (cellsL L o1 o2 o3 o4 o5 o' o7 o8 o9 ++ others) → o'.data = .cell (some v) → Q () { s with heap := h' }) : wpAny M A (storeName (lawEnv L a cd) (Str.ofString "row") v) Q E s := by
  exact storeO (pre := [(L + 1, o1), (L + 1 + 1, o2), (L + 1 + 1 + 1, o3), (L + 1 + 1 + 1 + 1, o4), (L + 1 + 1 + 1 + 1 + 1, o5)]) (post := [(L + 1 + 1 + 1 + 1 + 1 + 1 + 1, o7), (L + 1 + 1 + 1 + 1 + 1 + 1 + 1 + 1, o8), (L + 1 + 1 + 1 + 1 + 1 + 1 + 1 + 1 + 1, o9)]) (c := L + 1 + 1 + 1 + 1 + 1 + 1) (o := o6) F N no hd ⟨ne_add (i := 1) (j := 6) rfl, ne_add (i := 2) (j := 6) rfl, ne_add (i := 3) (j := 6) rfl, ne_add (i := 4) (j := 6) rfl, ne_add (i := 5) (j := 6) rfl, trivial⟩ ⟨ne_add (i := 7) (j := 6) rfl, ne_add (i := 8) (j := 6) rfl, ne_add (i := 9) (j := 6) rfl, trivial⟩ h rfl rfl rfl
theorem s2_due {M : Model} {A : Around} {E : Value → Shared → Prop} {s : Shared} {h₀ : Heap} {L a : Addr} {cd : Value} {m : Str → Option Value} {v : Value} {Q : Unit → Shared → Prop} {others : Led} {o1 o2 o3 o4 o5 o6 o7 o8 o9 : Obj} {v₀ : Option Value}
    (F : Fr h₀ L s.heap m) (N : News h₀ L s.heap (cellsL L o1 o2 o3 o4 o5 o6 o7 o8 o9 ++ others)) (no : ∀ p ∈ others, p.1 ≠ L + 1 + 1 + 1 + 1 + 1 + 1 + 1 + 1) (hd : o8.data = .cell v₀)
    (h : ∀ h' o', Fr h₀ L h' m → News h₀ L h' (cellsL L o1 o2 o3 o4 o5 o6 o7 o' o9 ++ others) → o'.data = .cell (some v) → Q () { s with heap := h' }) : wpAny M A (storeName (lawEnv L a cd) (Str.ofString "due") v) Q E s := by
  exact storeO (pre := [(L + 1, o1), (L + 1 + 1, o2), (L + 1 + 1 + 1, o3), (L + 1 + 1 + 1 + 1, o4), (L + 1 + 1 + 1 + 1 + 1, o5), (L + 1 + 1 + 1 + 1 + 1 + 1, o6), (L + 1 + 1 + 1 + 1 + 1 + 1 + 1, o7)]) (post := [(L + 1 + 1 + 1 + 1 + 1 + 1 + 1 + 1 + 1, o9)]) (c := L + 1 + 1 + 1 + 1 + 1 + 1 + 1 + 1) (o := o8) F N no hd ⟨ne_add (i := 1) (j := 8) rfl, ne_add (i := 2) (j := 8) rfl, ne_add (i := 3) (j := 8) rfl, ne_add (i := 4) (j := 8) rfl, ne_add (i := 5) (j := 8) rfl, ne_add (i := 6) (j := 8) rfl, ne_add (i := 7) (j := 8) rfl, trivial⟩ ⟨ne_add (i := 9) (j := 8) rfl, trivial⟩ h rfl rfl rfl
theorem s2_table {M : Model} {A : Around} {E : Value → Shared → Prop} {s : Shared} {h₀ : Heap} {L a : Addr} {cd : Value} {m : Str → Option Value} {v : Value} {Q : Unit → Shared → Prop} {others : Led} {o1 o2 o3 o4 o5 o6 o7 o8 o9 : Obj} {v₀ : Option Value}
    (F : Fr h₀ L s.heap m) (N : News h₀ L s.heap (cellsL L o1 o2 o3 o4 o5 o6 o7 o8 o9 ++ others)) (no : ∀ p ∈ others, p.1 ≠ L + 1 + 1 + 1 + 1 + 1 + 1 + 1 + 1 + 1) (hd : o9.data = .cell v₀)
    (h : ∀ h' o', Fr h₀ L h' m → News h₀ L h' (cellsL L o1 o2 o3 o4 o5 o6 o7 o8 o' ++ others) → o'.data = .cell (some v) → Q () { s with heap := h' }) : wpAny M A (storeName (lawEnv L a cd) (Str.ofString "table") v) Q E s := by
  exact storeO (pre := [(L + 1, o1), (L + 1 + 1, o2), (L + 1 + 1 + 1, o3), (L + 1 + 1 + 1 + 1, o4), (L + 1 + 1 + 1 + 1 + 1, o5), (L + 1 + 1 + 1 + 1 + 1 + 1, o6), (L + 1 + 1 + 1 + 1 + 1 + 1 + 1, o7), (L + 1 + 1 + 1 + 1 + 1 + 1 + 1 + 1, o8)]) (post := []) (c := L + 1 + 1 + 1 + 1 + 1 + 1 + 1 + 1 + 1) (o := o9) F N no hd ⟨ne_add (i := 1) (j := 9) rfl, ne_add (i := 2) (j := 9) rfl, ne_add (i := 3) (j := 9) rfl, ne_add (i := 4) (j := 9) rfl, ne_add (i := 5) (j := 9) rfl, ne_add (i := 6) (j := 9) rfl, ne_add (i := 7) (j := 9) rfl, ne_add (i := 8) (j := 9) rfl, trivial⟩ trivial h rfl rfl rfl
theorem notIn_strs {prog : Program} {w : World} {A : Around} {E : Value → Shared → Prop} {s : Shared} {l : Addr} {ps : List (Str × Tok)} {z : Str} {t : Tok} {Q : Value → Shared → Prop} (hl : s.heap.IsList l (strValues ps).toArray) (h : Q (.bool (!decide (z ∈ ps.map (·.1)))) s) : wpAny (model prog w) A (compareOp .NotIn (.str z t) (.ref l)) Q E s := by
  refine SeqInW.notIn_listW (fun y => match y with | .str a _ => a.cps.toList == z.cps.toList | _ => false) (fun y hy => ?_) hl ?_
  · have : y ∈ strValues ps := by simpa using hy
    obtain ⟨p, _, rfl⟩ := List.mem_map.mp this
    exact SeqRoads2.EqGives.str p.1 z p.2 t
  · have e : (strValues ps).toArray.any (fun y => match y with | .str a _ => a.cps.toList == z.cps.toList | _ => false) = decide (z ∈ ps.map (·.1)) := by
      rw [List.any_toArray, Bool.eq_iff_iff, List.any_eq_true, decide_eq_true_iff, List.mem_map]
      constructor
      · intro z1q
        obtain ⟨y, hy, h⟩ := z1q
        obtain ⟨p, hp, rfl⟩ := List.mem_map.mp hy
        refine ⟨p, hp, ?_⟩
        have : p.1.cps.toList = z.cps.toList := by simpa using h
        cases hp1 : p.1; cases z; rw [hp1] at this; simp at this; simp [this]
      · intro z2q
        obtain ⟨p, hp, rfl⟩ := z2q
        exact ⟨_, List.mem_map_of_mem hp, by simp⟩
    rw [e]; exact h
def onceI (l : List Str) : Nat → List Str
  | 0 => []
  | i + 1 => onceI l i ++ (match l[i]? with | some x => if x ∈ l.take i then [] else [x] | none => [])
def ddF : List Str → List Str → List Str
  | _, [] => []
  | pre, y :: r => if y ∈ pre then ddF (pre ++ [y]) r else y :: ddF (pre ++ [y]) r
theorem sel_dd (F : Str → Option Str) (φ : Str → Str) : ∀ (xs seen pre : List Str), (∀ x ∈ xs, F x = some (φ x)) → (∀ y, y ∈ seen ↔ y ∈ pre) → selR F seen xs = ddF pre (xs.map φ)
  | [], _, _, _, _ => rfl
  | x :: xs, seen, pre, h, hs => by
    rw [selR, h x (List.mem_cons_self ..), List.map_cons, ddF]
    have hx : ∀ x ∈ xs, F x = some (φ x) := fun x hx => h x (List.mem_cons_of_mem _ hx)
    dsimp only
    by_cases hm : φ x ∈ seen
    · rw [if_pos hm, if_pos ((hs _).mp hm)]
      exact sel_dd F φ xs seen _ hx fun y => by
        rw [List.mem_append, ← hs y]
        constructor
        · exact .inl
        · rintro (h | h)
          · exact h
          · rw [List.mem_singleton.mp h]; exact hm
    · rw [if_neg hm, if_neg (fun h => hm ((hs _).mpr h))]
      congr 1
      exact sel_dd F φ xs _ _ hx fun y => by rw [List.mem_append, List.mem_append, hs y]
theorem once_dd (l : List Str) : ∀ (j i : Nat), i + j = l.length → onceI l i ++ ddF (l.take i) (l.drop i) = onceI l l.length
  | 0, i, h => by
    have : l.drop i = [] := by rw [List.drop_eq_nil_iff]; omega
    rw [this, show i = l.length by omega]; simp [ddF]
  | j + 1, i, h => by
    have hi : i < l.length := by omega
    rw [← once_dd l j (i + 1) (by omega), List.drop_eq_getElem_cons hi, ddF, onceI, List.getElem?_eq_getElem hi, List.take_succ_eq_append_getElem hi]
    dsimp only
    by_cases hm : l[i] ∈ l.take i
    · rw [if_pos hm, if_pos hm, List.append_nil]
    · rw [if_neg hm, if_neg hm, List.append_assoc]; rfl
theorem mapF_c (f : Nat → Nat) : mapF f (Str.ofString "c") = none := by kernel_rfl
theorem mapF_at (f : Nat → Nat) : ∀ k < 5, mapF f (nameK k) = some (nameK (f k)) := by
  intro k hk
  rcases (by omega : k = 0 ∨ k = 1 ∨ k = 2 ∨ k = 3 ∨ k = 4) with rfl | rfl | rfl | rfl | rfl <;> kernel_rfl
def rankK (x : Str) : Nat := (NAMES.idxOf? x).getD 0
theorem sel_once (f : Nat → Nat) : selR (mapF f) [] (Str.ofString "c" :: NAMES) = onceI ((List.range 5).map fun k => nameK (f k)) 5 := by
  rw [selR, mapF_c]
  dsimp only
  rw [sel_dd (mapF f) (fun x => nameK (f (rankK x))) NAMES [] [] ?_ (fun _ => Iff.rfl)]
  · have h := once_dd ((List.range 5).map fun k => nameK (f k)) 5 0 (by walk_at "INS")
    simp only [List.take_zero, List.drop_zero, List.length_map, List.length_range] at h
    rw [← h]
    rfl
  · intro x hx
    have : ∃ k < 5, x = nameK k ∧ rankK (nameK k) = k := by
      simp only [NAMES, List.mem_cons, List.not_mem_nil, or_false] at hx
      rcases hx with rfl | rfl | rfl | rfl | rfl
      · exact ⟨0, by decide, rfl, by decide +kernel⟩
      · exact ⟨1, by decide, rfl, by decide +kernel⟩
      · exact ⟨2, by decide, rfl, by decide +kernel⟩
      · exact ⟨3, by decide, rfl, by decide +kernel⟩
      · exact ⟨4, by decide, rfl, by decide +kernel⟩
    obtain ⟨k, hk, rfl, hr⟩ := this
    rw [mapF_at f k hk, hr]
theorem ok_name (k : Nat) : PyData.strOk (nameK k) = true := by
  by_cases h : k < 5
  · have : ∀ k < 5, PyData.strOk (nameK k) = true := by decide +kernel
    exact this k h
  · have : nameK k = ⟨#[]⟩ := by
      unfold nameK
      rw [List.getD_eq_getElem?_getD, List.getElem?_eq_none (by simp [NAMES]; omega)]; rfl
    rw [this]; decide +kernel
theorem once_len (l : List Str) : ∀ i, (onceI l i).length ≤ i
  | 0 => Nat.le_refl _
  | i + 1 => by
    have := once_len l i
    rw [onceI, List.length_append]
    split
    · split <;> simp <;> omega
    · simp; omega
structure StH (h₀ : Heap) (L : Addr) (m : Str → Option Value) (o1 o2 o3 o4 o5 o7 o8 o9 : Obj) (led : Led) (s s' : Shared) : Prop where
  out : ∃ m' o6 v6, Same s s' ∧ Fr h₀ L s'.heap m' ∧ News h₀ L s'.heap (cellsL L o1 o2 o3 o4 o5 o6 o7 o8 o9 ++ led) ∧ o6.data = .cell v6 ∧ ∀ y, y ≠ Str.ofString "context" → y ≠ Str.ofString "once" → m' y = m y
theorem once_sub (l : List Str) : ∀ i, ∀ x ∈ onceI l i, x ∈ l
  | 0, x, h => nomatch h
  | i + 1, x, h => by
    rcases List.mem_append.mp h with h | h
    · exact once_sub l i x h
    · cases hi : l[i]? with
      | none => rw [hi] at h; exact nomatch h
      | some y =>
        rw [hi] at h
        dsimp only at h
        split at h
        · exact nomatch h
        · rw [List.mem_singleton.mp h]; exact List.mem_of_getElem? hi
local macro_rules | `(tactic| walk_at "compareOp NotIn str ref") => `(tactic| (k_here; refine Stop.out ?_))
theorem segH {w : World} {mean : ExcName → Option Value} {mg mb : Str → Option Value} {h₀ : Heap} {L a : Addr} {cd : Value} {m : Str → Option Value} {s : Shared} {E : Value → Shared → Prop} {o1 o2 o3 o4 o5 o6 o7 o8 o9 : Obj} {Xe : Addr × Obj} {others : Led} {ln S ll li s1 s2 c1 c2 : Addr} {n : Nat} {ns q1 q2 : List (Str × Tok)} {f g : Nat → Nat} {v6 : Option Value}
    (B : Below callerA h₀ [] h₀) (F : Fr h₀ L s.heap m) (X : (hd.heap_1 w.params).In h₀)
    (N : News h₀ L s.heap (cellsL L o1 o2 o3 o4 o5 o6 o7 o8 o9 ++ (Xe :: (li, W.listOf #[.ref s1, .ref s2] n) :: others))) (no : NoCell others) (nle : ∀ p ∈ others, p.1 ≠ Xe.1) (nli : ∀ p ∈ others, p.1 ≠ li) (hXc : ∀ v, Xe.2.data ≠ .cell v) (T : Top topProg looseG mean mg mb h₀)
    (e1 : o1.data = .cell (some (.ref ln))) (e3 : o3.data = .cell (some (.ref S))) (e6 : o6.data = .cell v6) (e7 : o7.data = .cell (some (.ref ll)))
    (hns : Sure others fun h => h.IsList ln (strValues ns).toArray) (hnm : ns.map (·.1) = NAMES) (hS : Sure others fun h => IsLead h S)
    (hll : Sure others fun h => h.IsList ll #[.ref c1, .ref c2]) (hc1 : CtxAt w others c1 (mapF f)) (hc2 : CtxAt w others c2 (mapF g))
    (hmi : m (Str.ofString "images") = some (.ref li)) (hs1 : Sure others fun h => h.IsList s1 (strValues q1).toArray) (hq1 : q1.map (·.1) = (List.range 5).map fun k => nameK (f k)) (hs2 : Sure others fun h => h.IsList s2 (strValues q2).toArray) (hq2 : q2.map (·.1) = (List.range 5).map fun k => nameK (g k))
    (hE : PassesOwn (model Challenge.pw_wv0033_01 w) (lawA L a cd) (lawEnv L a cd) E) :
    wpAny (model Challenge.pw_wv0033_01 w) (lawA L a cd) (execs ((lawDef.1.drop 12).take 1) (lawEnv L a cd)) (Mid fun f' s' => f' = .next ∧ StH h₀ L m o1 o2 o3 o4 o5 o7 o8 o9 (Xe :: (li, W.listOf #[.ref s1, .ref s2] n) :: others) s s') E s := by
  revert w mean mg mb h₀ L a cd m s E o1 o2 o3 o4 o5 o6 o7 o8 o9 Xe others ln S ll li s1 s2 c1 c2 n ns q1 q2 f g v6
  intro PK w mean mg mb h₀ L a cd m s E o1 o2 o3 o4 o5 o6 o7 o8 o9 Xe others ln S ll
  intro PK li s1 s2 c1 c2 n ns q1 q2 f g v6
  intro B F X N no nle nli hXc T e1 e3 e6 e7 hns hnm hS hll hc1 hc2 hmi hs1 hq1 hs2 hq2 hE
  walk_at "MINE fill"
  conv in List.drop _ _ => whnf
  simp only [List.take_succ_cons, List.take_zero]
  have hnl : ns.length = 5 := by simpa using congrArg List.length hnm
  k_steps
  walk_at "MINE data"
  refine Stop.mk (For_N ?_)
  k_steps
  walk_at "MINE data"
  rename Fr h₀ L _ _ => F1
  rename News h₀ L _ _ => N1
  refine Stop.mk ?_
  have hl1 := hll s.heap fun p hp => (N1 p (List.mem_append_right _ (List.mem_cons_of_mem _ (List.mem_cons_of_mem _ hp)))).1
  have hl2 : Heap.IsList s.heap li #[.ref s1, .ref s2] := ⟨_, (N1 (li, W.listOf #[.ref s1, .ref s2] n) (by walk_at "INS")).1, rfl, _, rfl⟩
  have hLs : L + 1 + 1 + 1 + 1 + 1 + 1 < s.heap.objs.size := Heap.lt_size (N1 (L + 1 + 1 + 1 + 1 + 1 + 1, o6) (by walk_at "INS")).1
  refine loop_zip restSame (fun i m₁ nx => ∃ o6' v6', nx = cellsL L o1 o2 o3 o4 o5 o6' o7 o8 o9 ++ (Xe :: (li, W.listOf #[.ref s1, .ref s2] n) :: others) ∧ o6'.data = .cell v6' ∧ ∀ y, y ≠ Str.ofString "context" → y ≠ Str.ofString "once" → m₁ y = m y)
    rfl F1 N1 hl1 hl2 (list_ne_ns hl1 F1.ns) (list_ne_ns hl2 F1.ns) ⟨o6, v6, rfl, e6, fun _ _ _ => rfl⟩ ?_ ?_ hE
  · intro j x y Tp m₁ nx s₂ own2 wr' hj1 hj2 z3q ha2 hw2 how2 hmo2 hr2 F₂ N₂ hT
    obtain ⟨o6', v6', rfl, e6', hmm⟩ := z3q
    have z4q : ∃ cj sj fj qj, x = .ref cj ∧ y = .ref sj ∧ CtxAt w others cj (mapF fj) ∧ (Sure others fun h => h.IsList sj (strValues qj).toArray) ∧ qj.map (·.1) = (List.range 5).map fun k => nameK (fj k) := by
      rcases (by have := (Array.getElem?_eq_some_iff.mp hj1).1; simp at this; omega : j = 0 ∨ j = 1) with rfl | rfl
      · exact ⟨c1, s1, f, q1, (Option.some.inj hj1).symm, (Option.some.inj hj2).symm, hc1, hs1, hq1⟩
      · exact ⟨c2, s2, g, q2, (Option.some.inj hj1).symm, (Option.some.inj hj2).symm, hc2, hs2, hq2⟩
    obtain ⟨cj, sj, fj, qj, rfl, rfl, hcj, hsj, hqj⟩ := z4q
    obtain ⟨h₄, gn₄, dr₄, tk₄, os₄⟩ := s₂
    dsimp only at F₂ N₂ hT ⊢
    k_steps
    walk_at "MINE data"
    rename Fr h₀ L _ _ => F5
    rename News h₀ L _ _ => N5
    rw [List.append_assoc] at N5
    rename_i hB9
    have hne6 : ∀ q its, Heap.IsList hB9 q its → q ≠ L + 1 + 1 + 1 + 1 + 1 + 1 := by
      intro q its z5q z6q
      obtain ⟨o, eo, _, k, hd⟩ := z5q
      obtain rfl := z6q
      have q9 := (N5 (L + 1 + 1 + 1 + 1 + 1 + 1, o6') (by walk_at "INS")).1
      rw [eo] at q9
      rw [Option.some.inj q9, e6'] at hd
      cases hd
    have noR : ∀ p ∈ (Xe :: (li, W.listOf #[.ref s1, .ref s2] n) :: others) ++ own2, p.1 ≠ L + 1 + 1 + 1 + 1 + 1 + 1 := by
      intro p hp
      rcases List.mem_append.mp hp with hp' | hp'
      · refine ne_cell N5 (o := o6') (by walk_at "INS") e6' (List.mem_append_right _ hp) ?_
        simp only [List.mem_cons] at hp'
        rcases hp' with rfl | rfl | hp'
        · exact hXc
        · intro v e; cases e
        · exact no p hp'
      · rcases how2 p hp' with h | h | h
        · rw [h]; exact hne6 _ _ (hll _ fun q hq => (N5 q (List.mem_append_right _ (List.mem_append_left _ (List.mem_cons_of_mem _ (List.mem_cons_of_mem _ hq))))).1)
        · rw [h]; exact hne6 _ _ ⟨_, (N5 (li, W.listOf #[.ref s1, .ref s2] n) (by walk_at "INS")).1, rfl, _, rfl⟩
        · exact Nat.ne_of_gt (Nat.lt_of_lt_of_le hLs h)
    refine Stop.mk (s2_row F5 N5 noR e6' fun h6 o6'' F6 N6 d6 => ?_)
    clear F5 N5 hne6 noR
    k_steps
    walk_at "MINE data"
    refine Stop.mk (CompA_N (by with_unfolding_all rfl) rfl rfl (by decide) ?_)
    k_steps
    walk_at "MINE data"
    refine Stop.mk ?_
    generalize hbL : cellsL L o1 o2 o3 o4 o5 o6'' o7 o8 o9 ++ (Xe :: (li, W.listOf #[.ref s1, .ref s2] n) :: others ++ own2) = bL at N6
    have hin6 : (L + 1 + 1 + 1 + 1 + 1 + 1, o6'') ∈ bL := by rw [← hbL]; simp
    have sub : ∀ p ∈ others, p ∈ bL := fun p hp => by rw [← hbL]; exact List.mem_append_right _ (List.mem_append_left _ (List.mem_cons_of_mem _ (List.mem_cons_of_mem _ hp)))
    have hql : qj.length = 5 := by simpa using congrArg List.length hqj
    have hlj := hsj h6 fun p hp => (N6 p (sub p hp)).1
    refine comp_enumP restHT (fun i ys nx' => bL = nx' ∧ ∃ qs : List (Str × Tok), ys = strValues qs ∧ qs.map (·.1) = onceI (qj.map (·.1)) i)
      rfl (by decide) rfl rfl rfl (by decide) F6 N6 hlj (list_ne_ns hlj F6.ns) (by simp [strValues, hql]) ⟨rfl, [], rfl, rfl⟩ ?_ ?_
    · intro i x ti ys mc nx' s₃ own3 C3 wr3 E3 hi z7q ha3 hw3 how3 hmo3 hr3 F₃ N₃ hn3 hCo3 hk3 hx3 hls3
      obtain ⟨rfl, qs, rfl, hqs⟩ := z7q
      obtain ⟨h₅, tk₅, rfl⟩ := hr3
      dsimp only at F₃ N₃ hn3 hls3 ⊢
      have hin : i < qj.length := by
        have := (Array.getElem?_eq_some_iff.mp hi).1; simpa [strValues] using this
      obtain rfl : .str (qj[i]'hin).1 (qj[i]'hin).2 = x := Option.some.inj ((item_str hin).symm.trans hi)
      have his : (qj.map (·.1))[i]? = some (qj[i]'hin).1 := by rw [List.getElem?_map, List.getElem?_eq_getElem hin]; rfl
      generalize (qj[i]'hin).1 = z at hx3 his
      generalize (qj[i]'hin).2 = tz at hx3
      have hc6 : Heap.IsCell h₅ (L + 1 + 1 + 1 + 1 + 1 + 1) (some (.ref sj)) := ⟨o6'', (N₃ _ (List.mem_append_left _ hin6)).1, d6⟩
      refine wpAny_tests_one ?_
      k_steps
      walk_at "MINE data"
      refine Stop.mk (slice_N (lo := none) (hi := some (i : Int)) (st := none) F₃ N₃ (fun b o e => Heap.get?_push_of_some _ e) hls3 (Heap.IsSliceOf.new ..) .none (.int _ _) .none (by decide) (out := (strValues (qj.take i)).toArray) ((slicePick_upto' _ _).trans (by simp [strValues, List.map_take])) (by simp only [strValues, List.size_toArray, List.length_map]; unfold sizeLine; omega) ?_)
      intro D h7 hk7 F7 N7 lD
      dsimp only
      have hlD : h7.IsList D (strValues (qj.take i)).toArray := ⟨_, (N7 _ (List.mem_cons_self ..)).1, rfl, _, rfl⟩
      have N8 : News h₀ L h7 (bL ++ own3) := N7.perm fun p hp => List.mem_cons_of_mem _ hp
      clear N7 N₃ F₃
      have hn7 : h7.Ns C3 mc := hn3.at' fun o e => hk7 _ o e
      refine notIn_strs (ps := qj.take i) hlD (wpAny_truthy_bool ?_)
      have hon : onceI (qj.map (·.1)) (i + 1) = onceI (qj.map (·.1)) i ++ (if z ∈ (qj.take i).map (·.1) then [] else [z]) := by
        show _ ++ _ = _
        rw [his, List.map_take]
      by_cases hz : z ∈ (qj.take i).map (·.1)
      · rw [decide_eq_true hz, if_neg (by decide)]
        rw [if_pos hz, List.append_nil] at hon
        exact ⟨_, bL, ht_mk, F7, N8, ha3, rfl, rfl, qs, rfl, by rw [hqs, hon]⟩
      · rw [decide_eq_false hz, if_pos (by decide)]
        rw [if_neg hz] at hon
        refine name_ok (x := "name") rfl rfl hn7 hx3 ?_
        exact ⟨_, bL, ht_mk, F7, N8, ha3, rfl, rfl, qs ++ [(z, tz)], by simp [strValues], by rw [List.map_append, hqs, hon]; rfl⟩
    · intro ys nn mc nx' s₃ Dl C hr3 F₃ N₃ hDl hC hLC h0C hn3 z8q
      obtain ⟨rfl, qs, rfl, hqs⟩ := z8q
      obtain ⟨h₅, tk₅, rfl⟩ := hr3
      refine postA rfl rfl rfl F₃ N₃ hC hLC h0C hn3 fun h7 tk7 F8 N8 => ?_
      dsimp only
      clear F₃ N₃ F6 N6
      k_steps
      walk_at "MINE data"
      refine Stop.mk (wpAny_If ?_)
      k_steps
      walk_at "MINE data"
      refine Stop.mk (Pv.callWith_type1 ?_)
      have hLd : ∀ h : Heap, Has h bL → IsLead h S := fun h H => hS h fun p hp => H p (sub p hp)
      have hin3 : (L + 1 + 1 + 1, o3) ∈ bL := by rw [← hbL]; simp
      have hin1 : (L + 1, o1) ∈ bL := by rw [← hbL]; simp
      have hback : ∀ p ∈ cellsL L o1 o2 o3 o4 o5 o6'' o7 o8 o9 ++ (Xe :: (li, W.listOf #[.ref s1, .ref s2] n) :: others) ++ own2, p ∈ bL := fun p hp => by rw [← hbL, ← List.append_assoc]; exact hp
      clear hbL
      have N9 : News h₀ L h7 ((Dl, W.listOf (strValues qs).toArray nn) :: (L + 1 + 1 + 1, o3) :: (L + 1, o1) :: bL) := N8.perm (by walk_at "SUB")
      clear N8
      k_steps
      walk_at "MINE data"
      refine Stop.mk (callWith_F (lead_fn (hLd _ fun p hp => (N9 p (List.mem_cons_of_mem _ (List.mem_cons_of_mem _ (List.mem_cons_of_mem _ hp)))).1)) ?_)
      k_steps
      walk_at "MINE data"
      rename Fr h₀ L _ _ => F10
      rename News h₀ L _ _ => N10
      rename_i la9 hA9 _ _ _
      have hbl : ∀ p ∈ bL, p ∈ (la9, W.listOf #[Value.str (Str.ofString "c") tk7] 0) :: (Dl, W.listOf (strValues qs).toArray nn) :: (L + 1 + 1 + 1, o3) :: (L + 1, o1) :: bL := fun p hp => List.mem_cons_of_mem _ (List.mem_cons_of_mem _ (List.mem_cons_of_mem _ (List.mem_cons_of_mem _ hp)))
      refine Stop.mk (add_lists (vs := [.str (Str.ofString "c") tk7]) (ws := strValues ns) F10 N10 ⟨_, (N10 _ (List.mem_cons_self ..)).1, rfl, _, rfl⟩ (hns _ fun p hp => (N10 p (hbl p (sub p hp))).1) (fun h8 F11 N11 => ?_) (by simp [strValues, hnl, sizeLine]))
      obtain ⟨dd, d, u1, u2, fv, x1, x2, x3, x4⟩ := hcj.out
      have Hb : Has h8 bL := fun p hp => (N11 p (List.mem_cons_of_mem _ (hbl p hp))).1
      have Ho : Has h8 others := fun p hp => Hb p (sub p hp)
      have lt : ∀ {b o}, h8.get? b = some o → b < h8.objs.size := fun e => Heap.lt_size e
      have hlim : h8.NoLimit := T.nolimit.keeps F11.keep
      obtain ⟨od, ed⟩ := map_live (x2 h8 Ho)
      refine spliced_none ⟨lead_fn (hLd h8 Hb), ?_⟩
      refine lead_list (s := { heap := h8, gens := gn₄, drawn := dr₄, toks := _, os := os₄ }) (S := S) (c := cj) (dd := dd) (d := d) (t₁ := u1) (t₂ := u2) (fv := fv) (F := mapF fj) (ps := (Str.ofString "c", tk7) :: ns) (rd := fun b => b < h8.objs.size) (by show 302 < recursionLimit; decide) (hLd h8 Hb) F11 X T (x1 h8 Ho) (x2 h8 Ho) x3 x4 ⟨_, (N11 _ (List.mem_cons_self ..)).1, rfl, _, rfl⟩ (by simp [hnl]) (let ⟨_, h, _⟩ := hlim; h.lt) (lt (x1 h8 Ho).obj) (lt (x1 h8 Ho).dict) (lt ed) (lt (N11 _ (List.mem_cons_self ..)).1) (fun b hb => Nat.lt_of_lt_of_le hb (Nat.le_trans F11.above (Nat.le_of_lt F11.ns.lt))) fun v s9 Gn => ?_
      obtain ⟨_, _, _, _, _, ag, _, _, _, _, _, eg, _⟩ := id Gn
      subst eg
      refine spliced_none ?_
      refine list_gen rfl (by show 302 ≤ 345; decide) (by show 7 + 2 ≤ 420; decide) Gn (by rw [List.map_cons, hnm, sel_once]; exact Nat.le_trans (once_len _ _) (by decide)) fun Dz s10 ts cz fDz G10 hDz hts => ?_
      rw [List.map_cons, hnm, sel_once] at hts
      have N13 : News h₀ L s10.heap ((Dz, listObj ts cz) :: (Dl, W.listOf (strValues qs).toArray nn) :: bL) := (news_add F11 N11 G10.keep fDz hDz).perm (by walk_at "SUB")
      have F13 := F11.kept G10.keep
      have S13 : Same s s10 := hr2.trans ⟨G10.bare, G10.drawn, G10.os⟩
      clear F11 N11 F10 N10 G10 hDz Gn N9
      obtain ⟨h10, gn10, dr10, tk10, os10⟩ := s10
      dsimp only at F13 N13 ⊢
      k_steps
      walk_at "MINE data"
      rename Fr h₀ L _ _ => F14
      rename News h₀ L _ _ => N14
      have hq5 : qs.map (·.1) = onceI ((List.range 5).map fun k => nameK (fj k)) 5 := by
        rw [hqs, hqj]; simp [strValues, hql]
      have okO : StrOks (onceI ((List.range 5).map fun k => nameK (fj k)) 5) := fun x hx => by
        obtain ⟨k, _, rfl⟩ := List.mem_map.mp (once_sub _ _ x hx)
        exact ok_name _
      refine Stop.mk (ne_texts (ts := ts) (us := qs) ⟨_, (N14 (Dz, _) (List.mem_cons_self ..)).1, rfl, _, rfl⟩ ⟨_, (N14 (Dl, _) (List.mem_cons_of_mem _ (List.mem_cons_self ..))).1, rfl, _, rfl⟩ (by rw [hts]; exact okO) (by rw [hq5]; exact okO) (Nat.le_of_ble_eq_true rfl) ?_)
      rw [hts, hq5, decide_eq_true rfl]
      k_steps
      walk_at "MINE data"
      refine .next ⟨_, cellsL L o1 o2 o3 o4 o5 o6'' o7 o8 o9 ++ (Xe :: (li, W.listOf #[.ref s1, .ref s2] n) :: others), S13, F14, N14.perm fun p hp => List.mem_cons_of_mem _ (List.mem_cons_of_mem _ (hback p hp)), fst_in (P := fun a => a ∉ wr') (l := cellsL L o1 o2 o3 o4 o5 o6' o7 o8 o9 ++ (Xe :: (li, W.listOf #[.ref s1, .ref s2] n) :: others)) rfl ha2, o6'', _, rfl, d6, fun y h1 h2 => ?_⟩
      · rw [if_neg h2, if_neg h1]; exact hmm y h1 h2
  · intro m₃ nx s₃ hr₃ F₃ N₃ z9q
    obtain ⟨o6', v6', rfl, e6', hmm⟩ := z9q
    try walk_at "QK"
    exact wpAny_execs_nil ⟨rfl, ⟨m₃, o6', v6', hr₃, F₃, N₃, e6', hmm⟩⟩
end SN33
section SN34
set_option maxHeartbeats 8000000
local macro_rules | `(tactic| walk_at "compareOp NotEq ref ref") => `(tactic| walk_at "STOP")
local macro_rules | `(tactic| walk_at "call builtin:list.append") => `(tactic| walk_at "STOP")
local macro_rules | `(tactic| walk_at "subscriptTail Subscript Name ref int") => `(tactic| walk_at "STOP")
structure StI1 (h₀ : Heap) (L : Addr) (m : Str → Option Value) (led : Led) (le r1 r2 : Addr) (Xi : Addr × Obj) (others : Led) (f g : Nat → Nat) (s s' : Shared) : Prop where
  out : ∃ r3 n k3 others', Same s s' ∧ Fr h₀ L s'.heap m ∧ News h₀ L s'.heap (led ++ ((le, W.listOf #[.ref r1, .ref r2, .ref r3] n) :: Xi :: others')) ∧ NoCell others' ∧ (∀ p ∈ others', p.1 ≠ le) ∧ (∀ p ∈ others', p.1 ≠ Xi.1) ∧ (∀ p ∈ others, p ∈ others') ∧
    (Sure others' fun h => h.IsList r3 (intsOf k3)) ∧ k3.map (·.1) = (List.range 5).map fun k => g (f k)
theorem segI1 {w : World} {mean : ExcName → Option Value} {mg mb : Str → Option Value} {h₀ : Heap} {L a : Addr} {cd : Value} {m : Str → Option Value} {s : Shared} {E : Value → Shared → Prop} {o1 o2 o3 o4 o5 o6 o7 o8 o9 : Obj} {Xi : Addr × Obj} {others : Led} {le r1 r2 : Addr} {n : Nat} {k1 k2 : List (Nat × Tok)} {f g : Nat → Nat}
    (B : Below callerA h₀ [] h₀) (F : Fr h₀ L s.heap m) (X : (hd.heap_1 w.params).In h₀)
    (N : News h₀ L s.heap (cellsL L o1 o2 o3 o4 o5 o6 o7 o8 o9 ++ ((le, W.listOf #[.ref r1, .ref r2] n) :: Xi :: others))) (no : NoCell others) (nle : ∀ p ∈ others, p.1 ≠ le) (nli : ∀ p ∈ others, p.1 ≠ Xi.1) (hXi : le ≠ Xi.1) (T : Top topProg looseG mean mg mb h₀)
    (e5 : o5.data = .cell (some (.ref le)))
    (h1 : Sure others fun h => h.IsList r1 (intsOf k1)) (h1m : k1.map (·.1) = (List.range 5).map f) (h2 : Sure others fun h => h.IsList r2 (intsOf k2)) (h2m : k2.map (·.1) = (List.range 5).map g) (hf : ∀ k, f k < 5) (hg : ∀ k, g k < 5) (hcl : ∀ p ∈ cellsL L o1 o2 o3 o4 o5 o6 o7 o8 o9, p.1 ≠ le) :
    wpAny (model Challenge.pw_wv0033_01 w) (lawA L a cd) (execs ((lawDef.1.drop 13).take 1) (lawEnv L a cd)) (Mid fun f' s' => f' = .next ∧ StI1 h₀ L m (cellsL L o1 o2 o3 o4 o5 o6 o7 o8 o9) le r1 r2 Xi others f g s s') E s := by
  revert w mean mg mb h₀ L a cd m s E o1 o2 o3 o4 o5 o6 o7 o8 o9 Xi others le r1 r2 n k1 k2 f g
  intro PK w mean mg mb h₀ L a cd m s E o1 o2 o3 o4 o5 o6 o7 o8 o9 Xi others le r1 r2 n k1 k2 f g
  intro B F X N no nle nli hXi T e5 h1 h1m h2 h2m hf hg hcl
  walk_at "MINE fill"
  conv in List.drop _ _ => whnf
  simp only [List.take_succ_cons, List.take_zero]
  have hkl : k1.length = 5 := by simpa using congrArg List.length h1m
  have hkl2 : k2.length = 5 := by simpa using congrArg List.length h2m
  k_steps
  walk_at "MINE data"
  refine Stop.mk (Comp_N rfl rfl (by decide) ?_)
  k_steps
  walk_at "MINE data"
  rename Fr h₀ L _ _ => F1
  rename News h₀ L _ _ => N1
  refine item_list (x := .ref r1) (⟨_, (N1 (le, W.listOf #[.ref r1, .ref r2] n) (List.mem_append_right _ (List.mem_cons_self ..))).1, rfl, _, rfl⟩ : Heap.IsList _ le #[.ref r1, .ref r2]) (by decide) (by decide) rfl ?_
  have hl1 := h1 s.heap fun p hp => (N1 p (List.mem_append_right _ (List.mem_cons_of_mem _ (List.mem_cons_of_mem _ hp)))).1
  refine comp_listH (fun i ys nx => nx = cellsL L o1 o2 o3 o4 o5 o6 o7 o8 o9 ++ ((le, W.listOf #[.ref r1, .ref r2] n) :: Xi :: others) ∧ ∃ qs : List (Nat × Tok), ys = qs.map (fun q => Value.int (q.1 : Int) q.2) ∧ qs.map (·.1) = (k1.take i).map fun q => g q.1)
    rfl (by decide) rfl rfl F1 N1 hl1 (list_ne_ns hl1 F1.ns) (by simp [hkl]) ⟨rfl, [], rfl, rfl⟩ ?_ ?_
  · intro j v ys mc nx h₄ tk₄ own2 C9 wr' E' hj z1q ha2 hw2 how2 hmo2 F₂ N₂ hn2 hCo2 hb2 hls2
    obtain ⟨rfl, qs, rfl, hqs⟩ := z1q
    try dsimp only at F₂ N₂ hn2 hls2 ⊢
    have hjn : j < k1.length := by
      have := (Array.getElem?_eq_some_iff.mp hj).1; simpa using this
    obtain rfl : .int ((k1[j]'hjn).1 : Int) (k1[j]'hjn).2 = v := Option.some.inj ((item_int hjn).symm.trans hj)
    have hjs : k1[j]? = some (k1[j]'hjn) := List.getElem?_eq_getElem hjn
    have hj5 : (k1[j]'hjn).1 < 5 := by
      have : (k1[j]'hjn).1 ∈ k1.map (·.1) := List.mem_map_of_mem (List.getElem_mem hjn)
      rw [h1m] at this
      obtain ⟨q, _, e⟩ := List.mem_map.mp this
      rw [← e]; exact hf q
    generalize k1[j]'hjn = kq at hb2 hj5 hjs
    obtain ⟨kk, kt⟩ := kq
    dsimp only at hb2 hj5 hjs
    have hc5 : Heap.IsCell h₄ (L + 1 + 1 + 1 + 1 + 1) (some (.ref le)) := ⟨o5, (N₂ (L + 1 + 1 + 1 + 1 + 1, o5) (by walk_at "INS")).1, e5⟩
    have hlr2 := h2 h₄ fun p hp => (N₂ p (List.mem_append_left _ (List.mem_append_right _ (List.mem_cons_of_mem _ (List.mem_cons_of_mem _ hp))))).1
    refine wpAny_tests_nil ?_
    rw [if_pos rfl]
    k_steps
    walk_at "MINE data"
    refine item_list (x := .ref r2) (⟨_, (N₂ (le, W.listOf #[.ref r1, .ref r2] n) (by walk_at "INS")).1, rfl, _, rfl⟩ : Heap.IsList _ le #[.ref r1, .ref r2]) (by decide) (by decide) rfl ?_
    k_steps
    walk_at "MINE data"
    have z2q : ∃ u, (intsOf k2)[kk]? = some (.int (g kk : Int) u) := by
      have hk' : kk < k2.length := by omega
      have e : (k2.map (·.1))[kk]? = some (g kk) := by rw [h2m]; simp [hj5]
      refine ⟨(k2[kk]'hk').2, ?_⟩
      have e2 : (k2[kk]'hk').1 = g kk := by simpa [hk'] using e
      rw [item_int hk', e2]
    obtain ⟨u9, hu9⟩ := z2q
    refine Stop.mk (kba_turn (value' := .Name (Str.ofString "_") ⟨0, 0, 0, 0⟩) (fun _ => rfl) (item_list hlr2 (Int.natCast_nonneg _) (by omega) (by rw [Int.toNat_natCast]; exact hu9) ?_))
    refine ⟨_, _, ht_mk, F₂, N₂, ha2, rfl, rfl, qs ++ [(g kk, u9)], by simp, ?_⟩
    rw [List.map_append, hqs, List.take_add_one, hjs]
    simp
  · intro ys nn nx h₄ tk₄ Dl F₂ N₂ hDl z3q
    obtain ⟨rfl, qs, rfl, hqs⟩ := z3q
    try dsimp only at F₂ N₂ ⊢
    clear F1 N1
    have hqm : qs.map (·.1) = (List.range 5).map fun k => g (f k) := by
      rw [hqs, List.take_of_length_le (by walk_at "INS")]
      have q9 := congrArg (List.map g) h1m
      rw [List.map_map, List.map_map] at q9
      exact q9
    k_steps
    walk_at "MINE data"
    rename Fr h₀ L _ _ => F3
    rename News h₀ L _ _ => N3
    have hDle : le ≠ Dl := hDl (le, W.listOf #[.ref r1, .ref r2] n) (by walk_at "INS")
    have hDxi : Xi.1 ≠ Dl := hDl Xi (by walk_at "INS")
    refine Stop.mk (append_N F3 (N3.perm (news' := (le, W.listOf #[.ref r1, .ref r2] n) :: ((Dl, W.listOf (intsOf qs) nn) :: (cellsL L o1 o2 o3 o4 o5 o6 o7 o8 o9 ++ (Xi :: others)))) fun p hp => ?_) ?_ (by simp [sizeLine]) fun h5 F5 N5 => ?_)
    · (revert hp; revert p; walk_at "SUB")
    · intro p hp
      rcases List.mem_cons.mp hp with rfl | hp
      · exact hDle.symm
      · rcases List.mem_append.mp hp with hp | hp
        · exact hcl p hp
        · rcases List.mem_cons.mp hp with rfl | hp
          · exact hXi.symm
          · exact nle p hp
    · try walk_at "QK"
      refine wpAny_execs_nil ⟨rfl, ⟨Dl, n + 1, qs, (Dl, W.listOf (intsOf qs) nn) :: others, ⟨fun h => h, rfl, rfl⟩, F5, N5.perm fun p hp => ?_, NoCell.list no, fun p hp => ?_, fun p hp => ?_, fun p hp => List.mem_cons_of_mem _ hp, fun h H => ⟨_, H _ (List.mem_cons_self ..), rfl, _, rfl⟩, hqm⟩⟩
      · show p ∈ (le, W.listOf #[.ref r1, .ref r2, .ref Dl] (n + 1)) :: ((Dl, W.listOf (intsOf qs) nn) :: (cellsL L o1 o2 o3 o4 o5 o6 o7 o8 o9 ++ (Xi :: others)))
        (revert hp; revert p; walk_at "SUB")
      · rcases List.mem_cons.mp hp with rfl | hp
        · exact hDle.symm
        · exact nle p hp
      · rcases List.mem_cons.mp hp with rfl | hp
        · exact hDxi.symm
        · exact nli p hp
end SN34
section SN35
set_option maxHeartbeats 8000000
local macro_rules | `(tactic| walk_at "compareOp NotEq ref ref") => `(tactic| walk_at "STOP")
local macro_rules | `(tactic| walk_at "call builtin:list.append") => `(tactic| walk_at "STOP")
theorem led_map2 {f g : Nat → Nat} (hf : ∀ k, f k < 5) : (NAMES.flatMap fun x => ((mapF f x).bind (mapF g)).toList) = (List.range 5).map fun k => nameK (g (f k)) := by
  have h : ∀ k < 5, ((mapF f (nameK k)).bind (mapF g)).toList = [nameK (g (f k))] := fun k hk => by
    rw [mapF_at f k hk, Option.bind_some, mapF_at g _ (hf k)]; rfl
  show (List.flatMap _ [nameK 0, nameK 1, nameK 2, nameK 3, nameK 4]) = _
  simp only [List.flatMap_cons, List.flatMap_nil, h 0 (by decide), h 1 (by decide), h 2 (by decide), h 3 (by decide), h 4 (by decide)]
  rfl
structure StI2 (h₀ : Heap) (L : Addr) (m : Str → Option Value) (led : Led) (Xe : Addr × Obj) (li s1 s2 : Addr) (others : Led) (f g : Nat → Nat) (s s' : Shared) : Prop where
  out : ∃ s3 n q3 others', Same s s' ∧ Fr h₀ L s'.heap m ∧ News h₀ L s'.heap (led ++ (Xe :: (li, W.listOf #[.ref s1, .ref s2, .ref s3] n) :: others')) ∧ NoCell others' ∧ (∀ p ∈ others', p.1 ≠ Xe.1) ∧ (∀ p ∈ others', p.1 ≠ li) ∧ (∀ p ∈ others, p ∈ others') ∧
    (Sure others' fun h => h.IsList s3 (strValues q3).toArray) ∧ q3.map (·.1) = (List.range 5).map fun k => nameK (g (f k))
theorem segI2 {w : World} {mean : ExcName → Option Value} {mg mb : Str → Option Value} {h₀ : Heap} {L a : Addr} {cd : Value} {m : Str → Option Value} {s : Shared} {E : Value → Shared → Prop} {o1 o2 o3 o4 o5 o6 o7 o8 o9 : Obj} {Xe : Addr × Obj} {others : Led} {ln S ll li s1 s2 c1 c2 : Addr} {n : Nat} {ns : List (Str × Tok)} {f g : Nat → Nat}
    (B : Below callerA h₀ [] h₀) (F : Fr h₀ L s.heap m) (X : (hd.heap_1 w.params).In h₀)
    (N : News h₀ L s.heap (cellsL L o1 o2 o3 o4 o5 o6 o7 o8 o9 ++ (Xe :: (li, W.listOf #[.ref s1, .ref s2] n) :: others))) (no : NoCell others) (nle : ∀ p ∈ others, p.1 ≠ Xe.1) (nli : ∀ p ∈ others, p.1 ≠ li) (hXi : Xe.1 ≠ li) (T : Top topProg looseG mean mg mb h₀)
    (e1 : o1.data = .cell (some (.ref ln))) (e3 : o3.data = .cell (some (.ref S))) (e7 : o7.data = .cell (some (.ref ll)))
    (hns : Sure others fun h => h.IsList ln (strValues ns).toArray) (hnm : ns.map (·.1) = NAMES) (hS : Sure others fun h => IsLead h S)
    (hll : Sure others fun h => h.IsList ll #[.ref c1, .ref c2]) (hc1 : CtxAt w others c1 (mapF f)) (hc2 : CtxAt w others c2 (mapF g)) (hmi : m (Str.ofString "images") = some (.ref li)) (hf : ∀ k, f k < 5) (hcl : ∀ p ∈ cellsL L o1 o2 o3 o4 o5 o6 o7 o8 o9, p.1 ≠ li) :
    wpAny (model Challenge.pw_wv0033_01 w) (lawA L a cd) (execs ((lawDef.1.drop 14).take 1) (lawEnv L a cd)) (Mid fun f' s' => f' = .next ∧ StI2 h₀ L m (cellsL L o1 o2 o3 o4 o5 o6 o7 o8 o9) Xe li s1 s2 others f g s s') E s := by
  revert w mean mg mb h₀ L a cd m s E o1 o2 o3 o4 o5 o6 o7 o8 o9 Xe others ln S ll li s1 s2 c1 c2 n ns f g
  intro PK w mean mg mb h₀ L a cd m s E o1 o2 o3 o4 o5 o6 o7 o8 o9 Xe others ln S ll
  intro PK li s1 s2 c1 c2 n ns f g
  intro B F X N no nle nli hXi T e1 e3 e7 hns hnm hS hll hc1 hc2 hmi hf hcl
  walk_at "MINE fill"
  conv in List.drop _ _ => whnf
  simp only [List.take_succ_cons, List.take_zero]
  have hnl : ns.length = 5 := by simpa using congrArg List.length hnm
  k_steps
  walk_at "MINE data"
  rename Fr h₀ L _ _ => F1
  rename News h₀ L _ _ => N1
  refine Stop.mk ?_
  have Ho : Has s.heap others := fun p hp => (N1 p (List.mem_append_right _ (List.mem_cons_of_mem _ (List.mem_cons_of_mem _ hp)))).1
  obtain ⟨dd, d, u1, u2, fv, x1, x2, x3, x4⟩ := hc1.out
  obtain ⟨dd', d', u1', u2', fv', y1, y2, y3, y4⟩ := hc2.out
  have hk1 : Heap.IsCell s.heap (L + 1) (some (.ref ln)) := ⟨o1, (N1 (L + 1, o1) (by walk_at "INS")).1, e1⟩
  have hk3 : Heap.IsCell s.heap (L + 1 + 1 + 1) (some (.ref S)) := ⟨o3, (N1 (L + 1 + 1 + 1, o3) (by walk_at "INS")).1, e3⟩
  have hk7 : Heap.IsCell s.heap (L + 1 + 1 + 1 + 1 + 1 + 1 + 1) (some (.ref ll)) := ⟨o7, (N1 (L + 1 + 1 + 1 + 1 + 1 + 1 + 1, o7) (by walk_at "INS")).1, e7⟩
  have keepC : ∀ {s' : Shared} {k v}, Grown s s' → s.heap.IsCell k v → s'.heap.IsCell k v := fun G ⟨o, e, r⟩ => ⟨o, G.keep _ _ e, r⟩
  refine comp2_led (D := 330) (U := 300) (l := ln) (ps := ns) (outsf := fun z => ((mapF f z).bind (mapF g)).toList) rfl (by show 302 ≤ 330; decide) (by show 7 ≤ 300; decide) rfl (by decide) rfl (by decide) rfl rfl (by decide) (fun _ => rfl) (fun _ _ => rfl) ?_ (hns _ Ho) (by omega) (fun z => by cases (mapF f z).bind (mapF g) <;> simp) ?_ ?_
  · intro Q E h
    exact name_cell (x := "names") rfl rfl rfl hk1 h
  · intro C s' z t m' Q E fC hC G hn hx hz hQ
    refine inner_two (kl := L + 1 + 1 + 1) (s := s) (c := c1) (c' := c2) (by show 302 < recursionLimit; decide) rfl rfl rfl rfl hk3 ?_ ?_ rfl rfl (hS _ Ho) F1 X T (x1 _ Ho) (x2 _ Ho) x3 x4 (y1 _ Ho) (y2 _ Ho) y3 y4 G hn hx hQ
    · intro s9 Q9 E9 G9 hQ9
      exact sub_list (k := 0) (items := #[.ref c1, .ref c2]) rfl rfl rfl (by decide) (keepC G9 hk7) ((hll _ Ho).at fun o e => G9.keep _ _ e) rfl (by decide) hQ9
    · intro s9 Q9 E9 G9 hQ9
      exact sub_list (k := 1) (items := #[.ref c1, .ref c2]) rfl rfl rfl (by decide) (keepC G9 hk7) ((hll _ Ho).at fun o e => G9.keep _ _ e) rfl (by decide) hQ9
  · intro Dl s' ts fD G ht hp
    obtain ⟨nz, hp⟩ := hp
    have N2 : News h₀ L s'.heap ((Dl, listObj ts nz) :: (cellsL L o1 o2 o3 o4 o5 o6 o7 o8 o9 ++ (Xe :: (li, W.listOf #[.ref s1, .ref s2] n) :: others))) := news_add F1 N1 G.keep fD hp
    have F2 := F1.kept G.keep
    have hDn : ∀ p ∈ cellsL L o1 o2 o3 o4 o5 o6 o7 o8 o9 ++ (Xe :: (li, W.listOf #[.ref s1, .ref s2] n) :: others), p.1 ≠ Dl := fun p hp e => by
      have := (N1 p hp).1
      rw [e, fD] at this
      cases this
    have htm : ts.map (·.1) = (List.range 5).map fun k => nameK (g (f k)) := by
      rw [ht, ← led_map2 hf, ← hnm, List.flatMap_map]
    have hsm : Same s s' := ⟨G.bare, G.drawn, G.os⟩
    clear F1 N1 G
    obtain ⟨h4, gn4, dr4, tk4, os4⟩ := s'
    dsimp only at F2 N2 ⊢
    k_steps
    walk_at "MINE data"
    rename Fr h₀ L _ _ => F3
    rename News h₀ L _ _ => N3
    have hDli : li ≠ Dl := hDn (li, W.listOf #[.ref s1, .ref s2] n) (by walk_at "INS")
    have hDxe : Xe.1 ≠ Dl := hDn Xe (by walk_at "INS")
    refine Stop.mk (append_N F3 (N3.perm (news' := (li, W.listOf #[.ref s1, .ref s2] n) :: ((Dl, listObj ts nz) :: (cellsL L o1 o2 o3 o4 o5 o6 o7 o8 o9 ++ (Xe :: others)))) fun p hp => ?_) ?_ (by simp [sizeLine]) fun h5 F5 N5 => ?_)
    · (revert hp; revert p; walk_at "SUB")
    · intro p hp
      rcases List.mem_cons.mp hp with rfl | hp
      · exact hDli.symm
      · rcases List.mem_append.mp hp with hp | hp
        · exact hcl p hp
        · rcases List.mem_cons.mp hp with rfl | hp
          · exact hXi
          · exact nli p hp
    · try walk_at "QK"
      refine wpAny_execs_nil ⟨rfl, ⟨Dl, n + 1, ts, (Dl, listObj ts nz) :: others, ⟨hsm.bare, hsm.drawn, hsm.os⟩, F5, N5.perm fun p hp => ?_, NoCell.list no, fun p hp => ?_, fun p hp => ?_, fun p hp => List.mem_cons_of_mem _ hp, fun h H => ⟨_, H _ (List.mem_cons_self ..), rfl, _, rfl⟩, htm⟩⟩
      · show p ∈ (li, W.listOf #[.ref s1, .ref s2, .ref Dl] (n + 1)) :: ((Dl, listObj ts nz) :: (cellsL L o1 o2 o3 o4 o5 o6 o7 o8 o9 ++ (Xe :: others)))
        (revert hp; revert p; walk_at "SUB")
      · rcases List.mem_cons.mp hp with rfl | hp
        · exact hDxe.symm
        · exact nle p hp
      · rcases List.mem_cons.mp hp with rfl | hp
        · exact hDli.symm
        · exact nli p hp
end SN35
section SN36
set_option maxHeartbeats 8000000
local macro_rules | `(tactic| walk_at "compareOp NotEq ref ref") => `(tactic| walk_at "STOP")
local macro_rules | `(tactic| walk_at "exec If") => `(tactic| walk_at "STOP")
local macro_rules | `(tactic| walk_at "PAD0") => `(tactic| skip)
def loopBody : List Stmt := match (lawDef.1[16]? : Option Stmt) with
  | some (Stmt.For _ _ body _ _) => body
  | _ => []
theorem list_seg {w : World} {L a : Addr} {cd : Value} (l : List Stmt) (k j : Nat) {Q : Flow → Shared → Prop} {E : Value → Shared → Prop} {s : Shared} (P : Shared → Prop) (hn : ∀ s', P s' → wpAny (model Challenge.pw_wv0033_01 w) (lawA L a cd) (execs (l.drop (k + j)) (lawEnv L a cd)) Q E s')
    (h : wpAny (model Challenge.pw_wv0033_01 w) (lawA L a cd) (execs ((l.drop k).take j) (lawEnv L a cd)) (Mid fun f s' => f = .next ∧ P s') E s) : wpAny (model Challenge.pw_wv0033_01 w) (lawA L a cd) (execs (l.drop k) (lawEnv L a cd)) Q E s := by
  have e : l.drop k = (l.drop k).take j ++ l.drop (k + j) := by rw [← List.drop_drop, List.take_append_drop]
  rw [e]
  refine execs_split (wpAny_mono h (fun f s' hq => ?_) fun _ _ x => x)
  obtain ⟨rfl, hp⟩ := hq.out
  exact hn s' hp
theorem bod0 {w : World} {mean : ExcName → Option Value} {mg mb : Str → Option Value} {h₀ : Heap} {L a : Addr} {cd : Value} {m : Str → Option Value} {s : Shared} {E : Value → Shared → Prop} {o1 o2 o3 o4 o5 o6 o7 o8 o9 : Obj} {rest : Led} {ln sj rj : Addr} {ns qj : List (Str × Tok)} {kj : List (Nat × Tok)} {fj : Nat → Nat}
    (B : Below callerA h₀ [] h₀) (F : Fr h₀ L s.heap m) (X : (hd.heap_1 w.params).In h₀)
    (N : News h₀ L s.heap (cellsL L o1 o2 o3 o4 o5 o6 o7 o8 o9 ++ rest)) (T : Top topProg looseG mean mg mb h₀)
    (e1 : o1.data = .cell (some (.ref ln))) (e6 : o6.data = .cell (some (.ref sj))) (e8 : o8.data = .cell (some (.ref rj)))
    (hns : Sure rest fun h => h.IsList ln (strValues ns).toArray) (hnm : ns.map (·.1) = NAMES) (hsj : Sure rest fun h => h.IsList sj (strValues qj).toArray) (hqj : qj.map (·.1) = (List.range 5).map fun k => nameK (fj k))
    (hrj : Sure rest fun h => h.IsList rj (intsOf kj)) (hkj : kj.map (·.1) = (List.range 5).map fj) (hf5 : ∀ k, fj k < 5) :
    wpAny (model Challenge.pw_wv0033_01 w) (lawA L a cd) (execs ((loopBody.drop 0).take 1) (lawEnv L a cd)) (Mid fun f' s' => f' = .next ∧ StSame h₀ L m (cellsL L o1 o2 o3 o4 o5 o6 o7 o8 o9 ++ rest) s s') E s := by
  revert w mean mg mb h₀ L a cd m s E o1 o2 o3 o4 o5 o6 o7 o8 o9 rest ln sj rj ns qj kj fj
  intro PK w mean mg mb h₀ L a cd m s E o1 o2 o3 o4 o5 o6 o7 o8 o9 rest ln sj rj ns qj kj fj
  intro B F X N T e1 e6 e8 hns hnm hsj hqj hrj hkj hf5
  walk_at "MINE fill"
  conv in List.drop _ _ => whnf
  simp only [List.take_succ_cons, List.take_zero]
  have z1q : ∃ t0 t1 t2 t3 t4, ns = [(nameK 0, t0), (nameK 1, t1), (nameK 2, t2), (nameK 3, t3), (nameK 4, t4)] := by
    have hl : ns.length = 5 := by simpa using congrArg List.length hnm
    match ns, hl, hnm with
    | [⟨a0, t0⟩, ⟨a1, t1⟩, ⟨a2, t2⟩, ⟨a3, t3⟩, ⟨a4, t4⟩], _, h =>
      simp only [List.map_cons, List.map_nil, NAMES, List.cons.injEq, and_true] at h
      obtain ⟨rfl, rfl, rfl, rfl, rfl⟩ := h
      exact ⟨t0, t1, t2, t3, t4, rfl⟩
  obtain ⟨t0, t1, t2, t3, t4, rfl⟩ := z1q
  k_steps
  walk_at "MINE data"
  refine Stop.mk (wpAny_If ?_)
  k_steps
  walk_at "MINE data"
  refine Stop.mk (Comp_N rfl rfl (by decide) ?_)
  k_steps
  walk_at "MINE data"
  rename Fr h₀ L _ _ => F1
  rename News h₀ L _ _ => N1
  refine Stop.mk ?_
  have hlr := hrj s.heap fun p hp => (N1 p (List.mem_append_right _ hp)).1
  have hkl : kj.length = 5 := by simpa using congrArg List.length hkj
  refine comp_listH (fun i ys nx' => nx' = cellsL L o1 o2 o3 o4 o5 o6 o7 o8 o9 ++ rest ∧ ∃ qs : List (Str × Tok), ys = strValues qs ∧ qs.map (·.1) = (kj.take i).map fun q => nameK q.1)
    rfl (by decide) rfl rfl F1 N1 hlr (list_ne_ns hlr F1.ns) (by simp [hkl]) ⟨rfl, [], rfl, rfl⟩ ?_ ?_
  · intro i v ys mc3 nx3 h₅ tk₅ own3 C3 wr3 E3 hi z2q ha3 hw3 how3 hmo3 F₃ N₃ hn3 hCo3 hb3 hls3
    obtain ⟨rfl, qs, rfl, hqs⟩ := z2q
    try dsimp only at F₃ N₃ hn3 hls3 ⊢
    have hin : i < kj.length := by
      have := (Array.getElem?_eq_some_iff.mp hi).1; simpa using this
    obtain rfl : .int ((kj[i]'hin).1 : Int) (kj[i]'hin).2 = v := Option.some.inj ((item_int hin).symm.trans hi)
    have his : kj[i]? = some (kj[i]'hin) := List.getElem?_eq_getElem hin
    have hi5 : (kj[i]'hin).1 < 5 := by
      have : (kj[i]'hin).1 ∈ kj.map (·.1) := List.mem_map_of_mem (List.getElem_mem hin)
      rw [hkj] at this
      obtain ⟨q, _, e⟩ := List.mem_map.mp this
      rw [← e]; exact hf5 q
    generalize kj[i]'hin = kq at hb3 hi5 his
    obtain ⟨kk, kt⟩ := kq
    dsimp only at hb3 hi5 his
    have hc1 : Heap.IsCell h₅ (L + 1) (some (.ref ln)) := ⟨o1, (N₃ (L + 1, o1) (by walk_at "INS")).1, e1⟩
    have hnl := hns h₅ fun p hp => (N₃ p (List.mem_append_left _ (List.mem_append_right _ hp))).1
    refine wpAny_tests_nil ?_
    rw [if_pos rfl]
    k_steps
    walk_at "MINE data"
    obtain ⟨u9, hu9⟩ := name_item t0 t1 t2 t3 t4 hi5
    refine Stop.mk (item_list hnl (Int.natCast_nonneg _) (by omega) (by rw [Int.toNat_natCast]; exact hu9) ?_)
    refine ⟨_, _, ht_mk, F₃, N₃, ha3, rfl, rfl, qs ++ [(nameK kk, u9)], by simp [strValues], ?_⟩
    rw [List.map_append, hqs, List.take_add_one, his]
    simp
  · intro ys nn nx4 h₅ tk₅ Dl F₃ N₃ hDl z3q
    obtain ⟨rfl, qs, rfl, hqs⟩ := z3q
    try dsimp only at F₃ N₃ ⊢
    have hqm : qs.map (·.1) = (List.range 5).map fun k => nameK (fj k) := by
      rw [hqs, List.take_of_length_le (by walk_at "INS")]
      have q9 := congrArg (List.map nameK) hkj
      rw [List.map_map, List.map_map] at q9
      exact q9
    clear F1 N1
    k_steps
    walk_at "MINE data"
    rename Fr h₀ L _ _ => F12
    rename News h₀ L _ _ => N12
    have okO : StrOks ((List.range 5).map fun k => nameK (fj k)) := fun x hx => by
      obtain ⟨k, _, rfl⟩ := List.mem_map.mp hx
      exact ok_name _
    refine Stop.mk (ne_texts (ts := qj) (us := qs) (hsj _ fun p hp => (N12 p (List.mem_cons_of_mem _ (List.mem_append_right _ hp))).1) ⟨_, (N12 _ (List.mem_cons_self ..)).1, rfl, _, rfl⟩ (by rw [hqj]; exact okO) (by rw [hqm]; exact okO) (Nat.le_of_ble_eq_true rfl) ?_)
    rw [hqj, hqm, decide_eq_true rfl]
    have N13 := N12.perm (news' := cellsL L o1 o2 o3 o4 o5 o6 o7 o8 o9 ++ rest) fun p hp => List.mem_cons_of_mem _ hp
    clear N12
    k_steps
    walk_at "MINE data"
    exact ⟨rfl, ⟨fun h => h, rfl, rfl⟩, F12, N13⟩
end SN36
section SN37
set_option maxHeartbeats 8000000
local macro_rules | `(tactic| walk_at "compareOp NotEq ref ref") => `(tactic| walk_at "STOP")
local macro_rules | `(tactic| walk_at "exec If") => `(tactic| walk_at "STOP")
abbrev parT (a b c : Nat) (k : Nat) : Nat := (tree a b c).getD k 0
structure StT (w : World) (h₀ : Heap) (L : Addr) (m : Str → Option Value) (o1 o2 o3 o4 o5 o6 o7 o8 : Obj) (rest : Led) (ps : List (Str × Str)) (s s' : Shared) : Prop where
  out : ∃ o9 T dT lh t9 n hs, Same s s' ∧ Fr h₀ L s'.heap m ∧ News h₀ L s'.heap (cellsL L o1 o2 o3 o4 o5 o6 o7 o8 o9 ++ (tabLed w T dT lh t9 n hs ++ rest)) ∧ o9.data = .cell (some (.ref T)) ∧ (hs.map fun h => (h.2.1.1, h.2.2.1)) = ps ∧
    (∀ q ∈ rest, q.1 ≠ T ∧ q.1 ≠ dT ∧ q.1 ≠ lh ∧ ∀ h ∈ hs, h.1 ≠ q.1) ∧ (∀ q ∈ cellsL L o1 o2 o3 o4 o5 o6 o7 o8 o9, q.1 ≠ T ∧ q.1 ≠ dT ∧ q.1 ≠ lh ∧ ∀ h ∈ hs, h.1 ≠ q.1)
theorem bod1 {w : World} {mean : ExcName → Option Value} {mg mb : Str → Option Value} {h₀ : Heap} {L a : Addr} {cd : Value} {m : Str → Option Value} {s : Shared} {E : Value → Shared → Prop} {o1 o2 o3 o4 o5 o6 o7 o8 o9 : Obj} {rest : Led} {ln lp sj C : Addr} {ns qj : List (Str × Tok)} {ks : List (Nat × Tok)} {fj : Nat → Nat} {fc : Str → Option Value} {ta tb tc : Nat} {CH : Nat → List Str} {mk : Str} {tm : Tok} {v9 : Option Value}
    (B : Below callerA h₀ [] h₀) (F : Fr h₀ L s.heap m) (X : (hd.heap_1 w.params).In h₀)
    (N : News h₀ L s.heap (cellsL L o1 o2 o3 o4 o5 o6 o7 o8 o9 ++ rest)) (T : Top topProg looseG mean mg mb h₀)
    (e1 : o1.data = .cell (some (.ref ln))) (e2 : o2.data = .cell (some (.ref lp))) (e4 : o4.data = .cell (some (.ref C))) (e6 : o6.data = .cell (some (.ref sj))) (e9 : o9.data = .cell v9) (hmm : m (Str.ofString "mark") = some (.str mk tm))
    (hns : Sure rest fun h => h.IsList ln (strValues ns).toArray) (hnm : ns.map (·.1) = NAMES) (hps : Sure rest fun h => h.IsList lp (intsOf ks)) (hpm : ks.map (·.1) = tree ta tb tc)
    (hC : ChainsAt w rest C fc CH) (hsj : Sure rest fun h => h.IsList sj (strValues qj).toArray) (hqj : qj.map (·.1) = (List.range 5).map fun k => nameK (fj k))
    (hfit : CarryFit CH (parT ta tb tc) fj mk) (hmk : mk.length ≤ 100) (hmk0 : (mk.length == 0) = false) (hmk2 : okText mk) (hr9 : ∀ p ∈ rest, p.1 ≠ L + 1 + 1 + 1 + 1 + 1 + 1 + 1 + 1 + 1) :
    wpAny (model Challenge.pw_wv0033_01 w) (lawA L a cd) (execs ((loopBody.drop 1).take 1) (lawEnv L a cd)) (Mid fun f' s' => f' = .next ∧ StT w h₀ L m o1 o2 o3 o4 o5 o6 o7 o8 rest (carriedZ CH (parT ta tb tc) fj mk) s s') E s := by
  revert w mean mg mb h₀ L a cd m s E o1 o2 o3 o4 o5 o6 o7 o8 o9 rest ln lp sj C ns qj ks fj fc ta tb tc CH mk tm v9
  intro PK w mean mg mb h₀ L a cd m s E o1 o2 o3 o4 o5 o6 o7 o8 o9 rest ln lp sj C
  intro PK ns qj ks fj fc ta tb tc CH mk tm v9
  intro B F X N T e1 e2 e4 e6 e9 hmm hns hnm hps hpm hC hsj hqj hfit hmk hmk0 hmk2 hr9
  walk_at "MINE fill"
  conv in List.drop _ _ => whnf
  simp only [List.take_succ_cons, List.take_zero]
  k_steps
  walk_at "MINE data"
  rename Fr h₀ L _ _ => F1
  rename News h₀ L _ _ => N1
  have up : ∀ {P : Heap → Prop}, Sure rest P → Sure (cellsL L o1 o2 o3 o4 o5 o6 o7 o8 o9 ++ rest) P := fun hP => Sure.mono hP fun p hp => List.mem_append_right _ hp
  refine Stop.mk ((carried_ok w (ln := ln) (lp := lp) (C := C) (li := sj) (fc := fc) (ns := ns) (gs := qj) (ks := ks) (CH := CH) (p := parT ta tb tc) (g := fj) (mk := mk) (t := tm) hfit (up hns) hnm (up hps) (by rw [hpm]; rfl) (up hC.map) (fun i hi => let ⟨l, cs, h1, h2, h3⟩ := hC.at_ i hi; ⟨l, cs, h1, up h2, h3⟩) (up hsj) hqj hmk hmk0 hmk2).useL (Nat.le_of_ble_eq_true rfl) (Nat.le_of_ble_eq_true rfl) B F1 X N1 T rfl fun v5 nx5 h5 tk5 hv F5 N5 => ?_)
  obtain ⟨Tt, dT, lh, t9, n9, hs, rfl, rfl, hpr, hfr⟩ := hv
  clear F1 N1
  k_steps
  walk_at "MINE data"
  rename Fr h₀ L _ _ => F6
  rename News h₀ L _ _ => N6
  have N7 : News h₀ L _ (cellsL L o1 o2 o3 o4 o5 o6 o7 o8 o9 ++ (tabLed w Tt dT lh t9 n9 hs ++ rest)) := N6.perm (by walk_at "SUB")
  have h9in : (L + 1 + 1 + 1 + 1 + 1 + 1 + 1 + 1 + 1, o9) ∈ cellsL L o1 o2 o3 o4 o5 o6 o7 o8 o9 ++ rest := by simp
  have hq9 := hfr _ h9in
  refine Stop.mk (s2_table F6 N7 ?_ e9 fun h7 o9' F8 N8 d9 => ?_)
  · intro p hp
    rcases List.mem_append.mp hp with hp | hp
    · simp only [tabLed, List.mem_cons, hdLed, List.mem_map] at hp
      rcases hp with rfl | rfl | rfl | ⟨h, hh, rfl⟩
      · exact hq9.1.symm
      · exact hq9.2.1.symm
      · exact hq9.2.2.1.symm
      · exact hq9.2.2.2 h hh
    · exact hr9 p hp
  · try walk_at "QK"
    refine wpAny_execs_nil ⟨rfl, ⟨o9', Tt, dT, lh, t9, n9, hs, ⟨fun h => h, rfl, rfl⟩, F8, N8, d9, hpr, fun q hq => hfr q (List.mem_append_right _ hq), fun q hq => ?_⟩⟩
    exact fst_in (P := fun a => a ≠ Tt ∧ a ≠ dT ∧ a ≠ lh ∧ ∀ h ∈ hs, h.1 ≠ a) (l := cellsL L o1 o2 o3 o4 o5 o6 o7 o8 o9) (l' := cellsL L o1 o2 o3 o4 o5 o6 o7 o8 o9') rfl (fun p hp => hfr p (List.mem_append_left _ hp)) q hq
theorem bod2 {w : World} {mean : ExcName → Option Value} {mg mb : Str → Option Value} {h₀ : Heap} {L a : Addr} {cd : Value} {m : Str → Option Value} {s : Shared} {E : Value → Shared → Prop} {o1 o2 o3 o4 o5 o6 o7 o8 o9 : Obj} {rest : Led} {Tt dT lh : Addr} {t9 : Tok} {n9 : Nat} {hs : List Hd}
    (B : Below callerA h₀ [] h₀) (F : Fr h₀ L s.heap m) (X : (hd.heap_1 w.params).In h₀)
    (N : News h₀ L s.heap (cellsL L o1 o2 o3 o4 o5 o6 o7 o8 o9 ++ (tabLed w Tt dT lh t9 n9 hs ++ rest))) (T : Top topProg looseG mean mg mb h₀)
    (e9 : o9.data = .cell (some (.ref Tt))) (hkeys : hs.map (fun h => h.2.1.1) = [Str.ofString "B", Str.ofString "ab", Str.ofString "BA", Str.ofString "bab"]) (hf1 : ∀ q ∈ rest, q.1 ≠ lh) (hf2 : ∀ q ∈ cellsL L o1 o2 o3 o4 o5 o6 o7 o8 o9, q.1 ≠ lh) :
    wpAny (model Challenge.pw_wv0033_01 w) (lawA L a cd) (execs ((loopBody.drop 2).take 1) (lawEnv L a cd)) (Mid fun f' s' => f' = .next ∧ StSame h₀ L m (cellsL L o1 o2 o3 o4 o5 o6 o7 o8 o9 ++ (tabLed w Tt dT lh t9 n9 hs ++ rest)) s s') E s := by
  revert w mean mg mb h₀ L a cd m s E o1 o2 o3 o4 o5 o6 o7 o8 o9 rest Tt dT lh t9 n9 hs
  intro PK w mean mg mb h₀ L a cd m s E o1 o2 o3 o4 o5 o6 o7 o8 o9 rest Tt dT lh t9 n9 hs
  intro B F X N T e9 hkeys hf1 hf2
  walk_at "MINE fill"
  conv in List.drop _ _ => whnf
  simp only [List.take_succ_cons, List.take_zero]
  have hlen : hs.length = 4 := by simpa using congrArg List.length hkeys
  k_steps
  walk_at "MINE data"
  refine Stop.mk (wpAny_If ?_)
  k_steps
  walk_at "MINE data"
  rename Fr h₀ L _ _ => F1
  rename News h₀ L _ _ => N1
  refine Stop.mk ?_
  show wpAny _ _ (call (.ref 145) [.ref Tt]) _ _ _
  have N2 : News h₀ L _ (tabLed w Tt dT lh t9 n9 hs ++ (cellsL L o1 o2 o3 o4 o5 o6 o7 o8 o9 ++ rest)) := N1.perm (by walk_at "SUB")
  refine (keys_ok w (T := Tt) (dT := dT) (lh := lh) (t := t9) (n := n9) (hs := hs) (news := cellsL L o1 o2 o3 o4 o5 o6 o7 o8 o9 ++ rest) (by omega) (fun p hp => (List.mem_append.mp hp).elim (hf2 p) (hf1 p))).useL (Nat.le_of_ble_eq_true rfl) (Nat.le_of_ble_eq_true rfl) B F1 X N2 T rfl fun v5 nx5 h5 tk5 hv F5 N5 => ?_
  obtain ⟨l, n', rfl, rfl⟩ := hv
  clear F1 N1 N2
  k_steps
  walk_at "MINE data"
  rename Fr h₀ L _ _ => F6
  rename News h₀ L _ _ => N6
  have hsv : (hs.map fun h => Value.str h.2.1.1 h.2.1.2) = strValues (hs.map fun h => h.2.1) := by simp [strValues]
  have hkm : (hs.map fun h => h.2.1).map (·.1) = [Str.ofString "B", Str.ofString "ab", Str.ofString "BA", Str.ofString "bab"] := by rw [← hkeys, List.map_map]; rfl
  have okk : StrOks [Str.ofString "B", Str.ofString "ab", Str.ofString "BA", Str.ofString "bab"] := by
    have : ∀ x ∈ [Str.ofString "B", Str.ofString "ab", Str.ofString "BA", Str.ofString "bab"], PyData.strOk x = true := by decide +kernel
    exact this
  refine Stop.mk (ne_texts (ts := hs.map fun h => h.2.1) (us := [(Str.ofString "B", _), (Str.ofString "ab", _), (Str.ofString "BA", _), (Str.ofString "bab", _)]) ⟨_, (N6 (l, _) (List.mem_cons_of_mem _ (List.mem_cons_self ..))).1, rfl, n', by rw [← hsv]⟩ ⟨_, (N6 _ (List.mem_cons_self ..)).1, rfl, _, rfl⟩ (by rw [hkm]; exact okk) okk (Nat.le_of_ble_eq_true rfl) ?_)
  rw [hkm]
  simp only [List.map_cons, List.map_nil, decide_true, Bool.not_true]
  have N7 := N6.perm (news' := cellsL L o1 o2 o3 o4 o5 o6 o7 o8 o9 ++ (tabLed w Tt dT lh t9 n9 hs ++ rest)) fun p hp => by
    refine List.mem_cons_of_mem _ (List.mem_cons_of_mem _ ?_)
    (revert hp; revert p; walk_at "SUB")
  clear N6
  k_steps
  walk_at "MINE data"
  exact ⟨rfl, ⟨fun h => h, rfl, rfl⟩, F6, N7⟩
end SN37
section SN38
set_option maxHeartbeats 8000000
local macro_rules | `(tactic| walk_at "compareOp NotEq ref ref") => `(tactic| walk_at "STOP")
local macro_rules | `(tactic| walk_at "exec If") => `(tactic| walk_at "STOP")
local macro_rules | `(tactic| walk_at "binaryOp Add ref ref") => `(tactic| walk_at "STOP")
local macro_rules | `(tactic| walk_at "compareOp In str ref") => `(tactic| walk_at "STOP")
theorem f_seven : ∀ z ∈ NAMES ++ [Str.ofString "AB", Str.ofString "Bab"], okText (Txt.lower z) ∧ z.length ≤ 1000 := by decide +kernel
theorem key_small : ∀ x ∈ [Str.ofString "B", Str.ofString "ab", Str.ofString "BA", Str.ofString "bab"], x.length ≤ 1000 := by decide +kernel
theorem key_len {hs : List Hd} (h : hs.map (fun h => h.2.1.1) = [Str.ofString "B", Str.ofString "ab", Str.ofString "BA", Str.ofString "bab"]) : ∀ x ∈ hs, x.2.1.1.length ≤ 1000 := fun x hx => key_small _ (by rw [← h]; exact List.mem_map_of_mem hx)
theorem get_any (x : Str) : ∀ hs : List Hd, (getHd x hs).isSome = (hs.map fun h => h.2.1.1).any fun k => Txt.lower k == Txt.lower x
  | [] => rfl
  | h :: hs => by
    unfold getHd
    rw [List.find?_cons, List.map_cons, List.any_cons]
    cases e : (Txt.lower h.2.1.1 == Txt.lower x)
    · simpa [getHd] using get_any x hs
    · rfl
theorem f_has : ((NAMES ++ [Str.ofString "AB", Str.ofString "Bab"]).map fun x => ([Str.ofString "B", Str.ofString "ab", Str.ofString "BA", Str.ofString "bab"].any fun k => Txt.lower k == Txt.lower x)) = [false, true, true, true, true, true, true] := by decide +kernel
theorem bod3 {w : World} {mean : ExcName → Option Value} {mg mb : Str → Option Value} {h₀ : Heap} {L a : Addr} {cd : Value} {m : Str → Option Value} {s : Shared} {E : Value → Shared → Prop} {o1 o2 o3 o4 o5 o6 o7 o8 o9 : Obj} {rest : Led} {ln Tt dT lh : Addr} {t9 : Tok} {n9 : Nat} {hs : List Hd} {ns : List (Str × Tok)}
    (B : Below callerA h₀ [] h₀) (F : Fr h₀ L s.heap m) (X : (hd.heap_1 w.params).In h₀)
    (N : News h₀ L s.heap (cellsL L o1 o2 o3 o4 o5 o6 o7 o8 o9 ++ (tabLed w Tt dT lh t9 n9 hs ++ rest))) (T : Top topProg looseG mean mg mb h₀)
    (e1 : o1.data = .cell (some (.ref ln))) (e9 : o9.data = .cell (some (.ref Tt))) (hkeys : hs.map (fun h => h.2.1.1) = [Str.ofString "B", Str.ofString "ab", Str.ofString "BA", Str.ofString "bab"])
    (hns : Sure rest fun h => h.IsList ln (strValues ns).toArray) (hnm : ns.map (·.1) = NAMES) :
    wpAny (model Challenge.pw_wv0033_01 w) (lawA L a cd) (execs ((loopBody.drop 3).take 1) (lawEnv L a cd)) (Mid fun f' s' => f' = .next ∧ StSame h₀ L m (cellsL L o1 o2 o3 o4 o5 o6 o7 o8 o9 ++ (tabLed w Tt dT lh t9 n9 hs ++ rest)) s s') E s := by
  revert w mean mg mb h₀ L a cd m s E o1 o2 o3 o4 o5 o6 o7 o8 o9 rest ln Tt dT lh t9 n9 hs ns
  intro PK w mean mg mb h₀ L a cd m s E o1 o2 o3 o4 o5 o6 o7 o8 o9 rest ln Tt dT lh t9 n9 hs ns
  intro B F X N T e1 e9 hkeys hns hnm
  walk_at "MINE fill"
  conv in List.drop _ _ => whnf
  simp only [List.take_succ_cons, List.take_zero]
  have hlen : hs.length = 4 := by simpa using congrArg List.length hkeys
  have hnl : ns.length = 5 := by simpa using congrArg List.length hnm
  k_steps
  walk_at "MINE data"
  refine Stop.mk (wpAny_If ?_)
  k_steps
  walk_at "MINE data"
  refine Stop.mk (Comp_N rfl rfl (by decide) ?_)
  k_steps
  walk_at "MINE data"
  rename Fr h₀ L _ _ => F1
  rename News h₀ L _ _ => N1
  rename_i la9 hA9 _ _ _
  have z1q : ∃ u1 u2, News h₀ L hA9 ((la9, W.listOf #[.str (Str.ofString "AB") u1, .str (Str.ofString "Bab") u2] 0) :: (cellsL L o1 o2 o3 o4 o5 o6 o7 o8 o9 ++ (tabLed w Tt dT lh t9 n9 hs ++ rest))) := ⟨_, _, N1⟩
  obtain ⟨u1, u2, N2⟩ := z1q
  refine Stop.mk (add_lists (vs := strValues ns) (ws := [.str (Str.ofString "AB") u1, .str (Str.ofString "Bab") u2]) F1 N2 (hns _ fun p hp => (N2 p (List.mem_cons_of_mem _ (List.mem_append_right _ (List.mem_append_right _ hp)))).1) ⟨_, (N2 _ (List.mem_cons_self ..)).1, rfl, _, rfl⟩ (fun h8 F11 N11 => ?_) (by simp [strValues, hnl, sizeLine]))
  have hl8 : h8.IsList hA9.objs.size (strValues (ns ++ [(Str.ofString "AB", u1), (Str.ofString "Bab", u2)])).toArray := ⟨_, (N11 _ (List.mem_cons_self ..)).1, rfl, 0, by simp [strValues]⟩
  have hxs : (ns ++ [(Str.ofString "AB", u1), (Str.ofString "Bab", u2)]).map (·.1) = NAMES ++ [Str.ofString "AB", Str.ofString "Bab"] := by rw [List.map_append, hnm]; rfl
  generalize ns ++ [(Str.ofString "AB", u1), (Str.ofString "Bab", u2)] = xs at hl8 hxs
  have hxl : xs.length = 7 := by simpa [NAMES] using congrArg List.length hxs
  dsimp only
  refine comp_listH (fun i ys nx' => nx' = cellsL L o1 o2 o3 o4 o5 o6 o7 o8 o9 ++ (tabLed w Tt dT lh t9 n9 hs ++ rest) ∧ ys = (xs.take i).map fun x => .bool (getHd x.1 hs).isSome)
    rfl (by decide) rfl rfl F11 (N11.perm fun p hp => List.mem_cons_of_mem _ (List.mem_cons_of_mem _ hp)) hl8 (list_ne_ns hl8 F11.ns) (by simp [strValues, hxl]) ⟨rfl, rfl⟩ ?_ ?_
  · intro i v ys mc3 nx3 h₅ tk₅ own3 C3 wr3 E3 hi z2q ha3 hw3 how3 hmo3 F₃ N₃ hn3 hCo3 hb3 hls3
    obtain ⟨rfl, rfl⟩ := z2q
    try dsimp only at F₃ N₃ hn3 hls3 ⊢
    have hin : i < xs.length := by
      have := (Array.getElem?_eq_some_iff.mp hi).1; simpa [strValues] using this
    obtain rfl : .str (xs[i]'hin).1 (xs[i]'hin).2 = v := Option.some.inj ((item_str hin).symm.trans hi)
    have his : xs[i]? = some (xs[i]'hin) := List.getElem?_eq_getElem hin
    have hmx : (xs[i]'hin).1 ∈ NAMES ++ [Str.ofString "AB", Str.ofString "Bab"] := by rw [← hxs]; exact List.mem_map_of_mem (List.getElem_mem hin)
    generalize xs[i]'hin = xq at hb3 his hmx
    obtain ⟨z, tz⟩ := xq
    dsimp only at hb3 his hmx
    have hc9 : Heap.IsCell h₅ (L + 1 + 1 + 1 + 1 + 1 + 1 + 1 + 1 + 1) (some (.ref Tt)) := ⟨o9, (N₃ (L + 1 + 1 + 1 + 1 + 1 + 1 + 1 + 1 + 1, o9) (by walk_at "INS")).1, e9⟩
    refine wpAny_tests_nil ?_
    rw [if_pos rfl]
    k_steps
    walk_at "MINE data"
    have hz := f_seven z hmx
    have N₄ : News h₀ L h₅ (tabLed w Tt dT lh t9 n9 hs ++ (cellsL L o1 o2 o3 o4 o5 o6 o7 o8 o9 ++ rest ++ own3)) := N₃.perm (by walk_at "SUB")
    refine Stop.mk (in_K (f := 125) (C := 193) F₃ X (by k_inst) (by k_is) (by k_is) ?_)
    refine (has_ok w (T := Tt) (dT := dT) (lh := lh) (t := t9) (n := n9) (hs := hs) (x := z) (tk := tz) (news := cellsL L o1 o2 o3 o4 o5 o6 o7 o8 o9 ++ rest ++ own3) hz.1 hz.2 (key_len hkeys) (by omega)).useL (Nat.le_of_ble_eq_true rfl) (Nat.le_of_ble_eq_true rfl) B F₃ X N₄ T rfl fun v5 nx5 h6 tk6 hv F6 N6 => ?_
    obtain ⟨rfl, rfl⟩ := hv
    refine wpAny_truthy_bool ?_
    show StepC HT _ _ _ _ _ _ _ _
    refine ⟨_, _, ht_mk, F6, N6.perm fun p hp => ?_, ha3, rfl, rfl, ?_⟩
    · (revert hp; revert p; walk_at "SUB")
    · rw [List.take_add_one, his, List.map_append]; rfl
  · intro ys nn nx4 h₅ tk₅ Dl F₃ N₃ hDl z3q
    obtain ⟨rfl, rfl⟩ := z3q
    try dsimp only at F₃ N₃ ⊢
    clear F1 N1 N2 F11 N11
    k_steps
    walk_at "MINE data"
    rename Fr h₀ L _ _ => F6
    rename News h₀ L _ _ => N6
    have hbs : ((xs.take (strValues xs).toArray.size).map fun x => (getHd x.1 hs).isSome) = [false, true, true, true, true, true, true] := by
      rw [List.take_of_length_le (by simp [strValues]), ← f_has, ← hxs, List.map_map]
      refine List.map_congr_left fun x _ => ?_
      rw [get_any, hkeys]; rfl
    have hbv : (xs.take (strValues xs).toArray.size).map (fun x => Value.bool (getHd x.1 hs).isSome) = [false, true, true, true, true, true, true].map Value.bool := by
      rw [← hbs, List.map_map]; rfl
    refine Stop.mk (ne_bools (xs := [false, true, true, true, true, true, true]) (ys := [false, true, true, true, true, true, true]) ⟨_, (N6 (Dl, _) (List.mem_cons_of_mem _ (List.mem_cons_self ..))).1, rfl, nn, by rw [hbv]⟩ ⟨_, (N6 _ (List.mem_cons_self ..)).1, rfl, _, rfl⟩ (Nat.le_of_ble_eq_true rfl) ?_)
    rw [decide_eq_true rfl]
    have N7 := N6.perm (news' := cellsL L o1 o2 o3 o4 o5 o6 o7 o8 o9 ++ (tabLed w Tt dT lh t9 n9 hs ++ rest)) fun p hp => List.mem_cons_of_mem _ (List.mem_cons_of_mem _ hp)
    clear N6
    k_steps
    walk_at "MINE data"
    exact ⟨rfl, ⟨fun h => h, rfl, rfl⟩, F6, N7⟩
end SN38
section SN39
set_option maxHeartbeats 8000000
local macro_rules | `(tactic| walk_at "compareOp NotEq ref ref") => `(tactic| walk_at "STOP")
local macro_rules | `(tactic| walk_at "call builtin:list.append") => `(tactic| walk_at "STOP")
local macro_rules | `(tactic| walk_at "exec If") => `(tactic| walk_at "STOP")
theorem bod4 {w : World} {mean : ExcName → Option Value} {mg mb : Str → Option Value} {h₀ : Heap} {L a : Addr} {cd : Value} {m : Str → Option Value} {s : Shared} {E : Value → Shared → Prop} {o1 o2 o3 o4 o5 o6 o7 o8 o9 : Obj} {rest : Led} {rj Tt dT lh : Addr} {t9 tm : Tok} {n9 : Nat} {hs : List Hd} {mk : Str} {kj : List (Nat × Tok)} {fj : Nat → Nat}
    (B : Below callerA h₀ [] h₀) (F : Fr h₀ L s.heap m) (X : (hd.heap_1 w.params).In h₀)
    (N : News h₀ L s.heap (cellsL L o1 o2 o3 o4 o5 o6 o7 o8 o9 ++ (tabLed w Tt dT lh t9 n9 hs ++ rest))) (T : Top topProg looseG mean mg mb h₀)
    (e8 : o8.data = .cell (some (.ref rj))) (e9 : o9.data = .cell (some (.ref Tt))) (hmm : m (Str.ofString "mark") = some (.str mk tm)) (hlen : hs.length = 4) (hmk : mk.length ≤ 100) (hmk0 : (mk.length == 0) = false)
    (hrj : Sure rest fun h => h.IsList rj (intsOf kj)) (hkj : kj.map (·.1) = (List.range 5).map fj)
    (hway : ∀ h ∈ hs, h.2.2.1.length ≤ 900 ∧ h.2.1.1.length ≤ 900 ∧ ∀ st ∈ stepsZ h.2.2.1 mk, 0 < st.length)
    (hal : alongZ mk (hs.map fun h => (h.2.1.1, h.2.2.1)) = (((List.range 5).filter fun k => decide (fj k = k)).length : Int) - 1) :
    wpAny (model Challenge.pw_wv0033_01 w) (lawA L a cd) (execs ((loopBody.drop 4).take 1) (lawEnv L a cd)) (Mid fun f' s' => f' = .next ∧ StSame h₀ L m (cellsL L o1 o2 o3 o4 o5 o6 o7 o8 o9 ++ (tabLed w Tt dT lh t9 n9 hs ++ rest)) s s') E s := by
  revert w mean mg mb h₀ L a cd m s E o1 o2 o3 o4 o5 o6 o7 o8 o9 rest rj Tt dT lh t9 tm n9 hs mk kj fj
  intro PK w mean mg mb h₀ L a cd m s E o1 o2 o3 o4 o5 o6 o7 o8 o9 rest rj Tt dT lh t9 tm n9 hs mk kj fj
  intro B F X N T e8 e9 hmm hlen hmk hmk0 hrj hkj hway hal
  walk_at "MINE fill"
  conv in List.drop _ _ => whnf
  simp only [List.take_succ_cons, List.take_zero]
  have hkl : kj.length = 5 := by simpa using congrArg List.length hkj
  k_steps
  walk_at "MINE data"
  refine Stop.mk (wpAny_If ?_)
  k_steps
  walk_at "MINE data"
  rename Fr h₀ L _ _ => F1
  rename News h₀ L _ _ => N1
  have N2 : News h₀ L _ (tabLed w Tt dT lh t9 n9 hs ++ (cellsL L o1 o2 o3 o4 o5 o6 o7 o8 o9 ++ rest)) := N1.perm (by walk_at "SUB")
  refine Stop.mk ((along_ok w (T := Tt) (dT := dT) (lh := lh) (t := t9) (tm := tm) (n := n9) (hs := hs) (mk := mk) (news := cellsL L o1 o2 o3 o4 o5 o6 o7 o8 o9 ++ rest) (by omega) hmk0 hmk hway).useL (Nat.le_of_ble_eq_true rfl) (Nat.le_of_ble_eq_true rfl) B F1 X N2 T rfl fun v5 nx5 h5 tk5 hv F5 N5 => ?_)
  obtain ⟨⟨kz, rfl⟩, rfl⟩ := hv
  rw [hal]
  have N6 : News h₀ L h5 (cellsL L o1 o2 o3 o4 o5 o6 o7 o8 o9 ++ (tabLed w Tt dT lh t9 n9 hs ++ rest)) := N5.perm (by walk_at "SUB")
  clear F1 N1 N2 N5
  k_steps
  walk_at "MINE data"
  refine Stop.mk (Comp_N rfl rfl (by decide) ?_)
  k_steps
  walk_at "MINE data"
  refine Stop.mk ?_
  rename Fr h₀ L _ _ => F7
  rename News h₀ L _ _ => N7
  refine comp_range (b := 5) restHT (fun i ys nx => nx = cellsL L o1 o2 o3 o4 o5 o6 o7 o8 o9 ++ (tabLed w Tt dT lh t9 n9 hs ++ rest) ∧ ys.length = ((List.range i).filter fun k => decide (fj k = k)).length)
    rfl (by decide) rfl rfl F7 N7 (by decide) ⟨rfl, rfl⟩ ?_ ?_
  · intro j tj ys mc nx s₂ own2 C9 wr' E' hj z1q ha2 hw2 how2 hmo2 hr2 F₂ N₂ hn2 hCo2 hb2
    obtain ⟨rfl, hys⟩ := z1q
    obtain ⟨h₅, tk₅, rfl⟩ := hr2
    dsimp only at F₂ N₂ hn2 ⊢
    have hc8 : Heap.IsCell h₅ (L + 1 + 1 + 1 + 1 + 1 + 1 + 1 + 1) (some (.ref rj)) := ⟨o8, (N₂ (L + 1 + 1 + 1 + 1 + 1 + 1 + 1 + 1, o8) (by walk_at "INS")).1, e8⟩
    have hlr := hrj h₅ fun p hp => (N₂ p (List.mem_append_left _ (List.mem_append_right _ (List.mem_append_right _ hp)))).1
    refine wpAny_tests_one ?_
    k_steps
    walk_at "MINE data"
    have z2q : ∃ u, (intsOf kj)[j]? = some (.int (fj j : Int) u) := by
      have hk' : j < kj.length := by omega
      have e : (kj.map (·.1))[j]? = some (fj j) := by rw [hkj]; simp [hj]
      refine ⟨(kj[j]'hk').2, ?_⟩
      have e2 : (kj[j]'hk').1 = fj j := by simpa [hk'] using e
      rw [item_int hk', e2]
    obtain ⟨u9, hu9⟩ := z2q
    refine Stop.mk (item_list hlr (Int.natCast_nonneg _) (by omega) (by rw [Int.toNat_natCast]; exact hu9) ?_)
    k_steps
    walk_at "MINE data"
    · have he : ((fj j : Nat) : Int) = (j : Int) := by assumption
      have hn : fj j = j := by omega
      refine ⟨_, _, ht_mk, F₂, N₂, ha2, rfl, rfl, ?_⟩
      rw [List.range_succ, List.filter_append, List.length_append, List.length_append, hys]
      simp [hn]
    · have he : ¬ ((fj j : Nat) : Int) = (j : Int) := by assumption
      have hn : ¬ fj j = j := by omega
      refine ⟨_, _, ht_mk, F₂, N₂, ha2, rfl, rfl, ?_⟩
      rw [List.range_succ, List.filter_append, List.length_append, hys]
      simp [hn]
  · intro ys nn nx s₂ Dl hr2 F₂ N₂ hDl z3q
    obtain ⟨rfl, hys⟩ := z3q
    obtain ⟨h₄, tk₄, rfl⟩ := hr2
    dsimp only at F₂ N₂ ⊢
    clear F7 N7
    have hys5 : ys.length ≤ 5 := by rw [hys]; exact Nat.le_trans (List.length_filter_le _ _) (by walk_at "INS")
    have hsz : ys.toArray.size ≤ 5 := by simpa using hys5
    rw [← hys]
    k_steps
    walk_at "MINE data"
    · rename Fr h₀ L _ _ => F9
      rename News h₀ L _ _ => N9
      exact ⟨rfl, ⟨fun h => h, rfl, rfl⟩, F9, N9.perm fun p hp => List.mem_cons_of_mem _ hp⟩
theorem bod5 {w : World} {mean : ExcName → Option Value} {mg mb : Str → Option Value} {h₀ : Heap} {L a : Addr} {cd : Value} {m : Str → Option Value} {s : Shared} {E : Value → Shared → Prop} {o1 o2 o3 o4 o5 o6 o7 o8 o9 : Obj} {rest : Led} {lt Tt : Addr} {vs : Array Value} {n : Nat}
    (B : Below callerA h₀ [] h₀) (F : Fr h₀ L s.heap m) (X : (hd.heap_1 w.params).In h₀)
    (N : News h₀ L s.heap (cellsL L o1 o2 o3 o4 o5 o6 o7 o8 o9 ++ ((lt, W.listOf vs n) :: rest))) (T : Top topProg looseG mean mg mb h₀)
    (e9 : o9.data = .cell (some (.ref Tt))) (hmt : m (Str.ofString "tables") = some (.ref lt)) (hvs : vs.size ≤ 10) (hne : ∀ p ∈ rest, p.1 ≠ lt) (hcl : ∀ p ∈ cellsL L o1 o2 o3 o4 o5 o6 o7 o8 o9, p.1 ≠ lt) :
    wpAny (model Challenge.pw_wv0033_01 w) (lawA L a cd) (execs ((loopBody.drop 5).take 1) (lawEnv L a cd)) (Mid fun f' s' => f' = .next ∧ StSame h₀ L m (cellsL L o1 o2 o3 o4 o5 o6 o7 o8 o9 ++ ((lt, W.listOf (vs.push (.ref Tt)) (n + 1)) :: rest)) s s') E s := by
  revert w mean mg mb h₀ L a cd m s E o1 o2 o3 o4 o5 o6 o7 o8 o9 rest lt Tt vs n
  intro PK w mean mg mb h₀ L a cd m s E o1 o2 o3 o4 o5 o6 o7 o8 o9 rest lt Tt vs n
  intro B F X N T e9 hmt hvs hne hcl
  walk_at "MINE fill"
  conv in List.drop _ _ => whnf
  simp only [List.take_succ_cons, List.take_zero]
  k_steps
  walk_at "MINE data"
  rename Fr h₀ L _ _ => F3
  rename News h₀ L _ _ => N3
  refine Stop.mk (append_N F3 (N3.perm (news' := (lt, W.listOf vs n) :: (cellsL L o1 o2 o3 o4 o5 o6 o7 o8 o9 ++ rest)) fun p hp => ?_) (fun p hp => (List.mem_append.mp hp).elim (hcl p) (hne p)) (by unfold sizeLine; omega) fun h5 F5 N5 => ?_)
  · (revert hp; revert p; walk_at "SUB")
  · try walk_at "QK"
    refine wpAny_execs_nil ⟨rfl, ⟨fun h => h, rfl, rfl⟩, F5, N5.perm fun p hp => ?_⟩
    (revert hp; revert p; walk_at "SUB")
end SN39
section SN40
set_option maxHeartbeats 8000000
local macro_rules | `(tactic| walk_at "compareOp NotEq ref ref") => `(tactic| walk_at "STOP")
structure Tb where
  T : Addr
  dT : Addr
  lh : Addr
  t : Tok
  n : Nat
  hs : List Hd
abbrev tbLed (w : World) (x : Tb) : Led := tabLed w x.T x.dT x.lh x.t x.n x.hs
abbrev tbPairs (x : Tb) : List (Str × Str) := x.hs.map fun h => (h.2.1.1, h.2.2.1)
theorem tb_noCell (w : World) (x : Tb) : NoCell (tbLed w x) := NoCell.cons (fun v e => by cases e) (NoCell.cons (fun v e => by cases e) (NoCell.list fun p hp v e => by
  obtain ⟨h, _, rfl⟩ := List.mem_map.mp hp
  cases e))
theorem flat_noCell {α : Type} {f : α → Led} (h : ∀ x, NoCell (f x)) (l : List α) : NoCell (l.flatMap f) := fun p hp => by
  obtain ⟨x, _, hx⟩ := List.mem_flatMap.mp hp
  exact h x p hx
abbrev cellAddrs (L : Addr) : List Addr := [L + 1, L + 1 + 1, L + 1 + 1 + 1, L + 1 + 1 + 1 + 1, L + 1 + 1 + 1 + 1 + 1, L + 1 + 1 + 1 + 1 + 1 + 1, L + 1 + 1 + 1 + 1 + 1 + 1 + 1, L + 1 + 1 + 1 + 1 + 1 + 1 + 1 + 1, L + 1 + 1 + 1 + 1 + 1 + 1 + 1 + 1 + 1]
theorem cells_addr {L : Addr} {o1 o2 o3 o4 o5 o6 o7 o8 o9 : Obj} {p : Addr × Obj} (h : p ∈ cellsL L o1 o2 o3 o4 o5 o6 o7 o8 o9) : p.1 ∈ cellAddrs L :=
  List.mem_map_of_mem (f := Prod.fst) h
theorem cells_at {L : Addr} (o1 o2 o3 o4 o5 o6 o7 o8 o9 : Obj) {c : Addr} (h : c ∈ cellAddrs L) : ∃ o, (c, o) ∈ cellsL L o1 o2 o3 o4 o5 o6 o7 o8 o9 :=
  let ⟨p, hp, e⟩ := List.mem_map.mp (show c ∈ (cellsL L o1 o2 o3 o4 o5 o6 o7 o8 o9).map Prod.fst from h)
  ⟨p.2, e ▸ hp⟩
structure StJ (w : World) (h₀ : Heap) (L : Addr) (m : Str → Option Value) (o1 o2 o3 o4 o5 o7 : Obj) (base : Led) (PS : Nat → List (Str × Str)) (s s' : Shared) : Prop where
  out : ∃ m' o6 o8 o9 lt nT xs, Same s s' ∧ Fr h₀ L s'.heap m' ∧ News h₀ L s'.heap (cellsL L o1 o2 o3 o4 o5 o6 o7 o8 o9 ++ ((lt, W.listOf ((xs : List Tb).map fun x => Value.ref x.T).toArray nT) :: (xs.flatMap (tbLed w) ++ base))) ∧
    m' (Str.ofString "tables") = some (.ref lt) ∧ m' (Str.ofString "mark") = m (Str.ofString "mark") ∧ xs.map tbPairs = (List.range 3).map PS ∧ (∃ v, o6.data = .cell v) ∧ (∃ v, o8.data = .cell v) ∧ (∃ v, o9.data = .cell v)
structure JFit (CH : Nat → List Str) (p f : Nat → Nat) (mk : Str) : Prop where
  low : ∀ k, f k < 5
  fit : CarryFit CH p f mk
  way : ∀ q ∈ carriedZ CH p f mk, q.2.length ≤ 900 ∧ q.1.length ≤ 900 ∧ ∀ st ∈ stepsZ q.2 mk, 0 < st.length
  along : alongZ mk (carriedZ CH p f mk) = (((List.range 5).filter fun k => decide (f k = k)).length : Int) - 1
theorem segJ {w : World} {mean : ExcName → Option Value} {mg mb : Str → Option Value} {h₀ : Heap} {L a : Addr} {cd : Value} {m : Str → Option Value} {s : Shared} {E : Value → Shared → Prop} {o1 o2 o3 o4 o5 o6 o7 o8 o9 : Obj} {others : Led} {ln lp C le li : Addr} {sA rA : Nat → Addr} {nE nI : Nat} {ns : List (Str × Tok)} {ks : List (Nat × Tok)} {qA : Nat → List (Str × Tok)} {kA : Nat → List (Nat × Tok)} {FF : Nat → Nat → Nat} {fc : Str → Option Value} {ta tb tc : Nat} {CH : Nat → List Str} {mk : Str} {tm : Tok} {v6 v8 v9 : Option Value}
    (B : Below callerA h₀ [] h₀) (F : Fr h₀ L s.heap m) (X : (hd.heap_1 w.params).In h₀)
    (N : News h₀ L s.heap (cellsL L o1 o2 o3 o4 o5 o6 o7 o8 o9 ++ ((le, W.listOf #[.ref (rA 0), .ref (rA 1), .ref (rA 2)] nE) :: (li, W.listOf #[.ref (sA 0), .ref (sA 1), .ref (sA 2)] nI) :: others))) (no : NoCell others) (T : Top topProg looseG mean mg mb h₀)
    (e1 : o1.data = .cell (some (.ref ln))) (e2 : o2.data = .cell (some (.ref lp))) (e4 : o4.data = .cell (some (.ref C))) (e5 : o5.data = .cell (some (.ref le))) (e6 : o6.data = .cell v6) (e8 : o8.data = .cell v8) (e9 : o9.data = .cell v9)
    (hmi : m (Str.ofString "images") = some (.ref li)) (hmm : m (Str.ofString "mark") = some (.str mk tm))
    (hns : Sure others fun h => h.IsList ln (strValues ns).toArray) (hnm : ns.map (·.1) = NAMES) (hps : Sure others fun h => h.IsList lp (intsOf ks)) (hpm : ks.map (·.1) = tree ta tb tc) (hC : ChainsAt w others C fc CH)
    (hsA : ∀ i < 3, Sure others fun h => h.IsList (sA i) (strValues (qA i)).toArray) (hqA : ∀ i < 3, (qA i).map (·.1) = (List.range 5).map fun k => nameK (FF i k)) (hrA : ∀ i < 3, Sure others fun h => h.IsList (rA i) (intsOf (kA i))) (hkA : ∀ i < 3, (kA i).map (·.1) = (List.range 5).map (FF i))
    (hfit : ∀ i < 3, JFit CH (parT ta tb tc) (FF i) mk) (hmk : mk.length ≤ 100) (hmk0 : (mk.length == 0) = false) (hmk2 : okText mk)
    (hE : PassesOwn (model Challenge.pw_wv0033_01 w) (lawA L a cd) (lawEnv L a cd) E) :
    wpAny (model Challenge.pw_wv0033_01 w) (lawA L a cd) (execs ((lawDef.1.drop 15).take 2) (lawEnv L a cd)) (Mid fun f' s' => f' = .next ∧ StJ w h₀ L m o1 o2 o3 o4 o5 o7 ((le, W.listOf #[.ref (rA 0), .ref (rA 1), .ref (rA 2)] nE) :: (li, W.listOf #[.ref (sA 0), .ref (sA 1), .ref (sA 2)] nI) :: others) (fun i => carriedZ CH (parT ta tb tc) (FF i) mk) s s') E s := by
  revert w mean mg mb h₀ L a cd m s E o1 o2 o3 o4 o5 o6 o7 o8 o9 others ln lp C le li sA rA nE nI ns ks qA kA FF fc ta tb tc CH mk tm v6 v8 v9
  intro PK w mean mg mb h₀ L a cd m s E o1 o2 o3 o4 o5 o6 o7 o8 o9 others ln lp C le li sA rA nE nI ns ks
  intro PK qA kA FF fc ta tb tc CH mk tm v6 v8 v9
  intro B F X N no T e1 e2 e4 e5 e6 e8 e9 hmi hmm hns hnm hps hpm hC hsA hqA hrA hkA hfit hmk hmk0 hmk2 hE
  walk_at "MINE fill"
  conv in List.drop _ _ => whnf
  simp only [List.take_succ_cons, List.take_zero]
  generalize hbase : (le, W.listOf #[.ref (rA 0), .ref (rA 1), .ref (rA 2)] nE) :: (li, W.listOf #[.ref (sA 0), .ref (sA 1), .ref (sA 2)] nI) :: others = base at N
  have hnb : NoCell base := by rw [← hbase]; exact NoCell.list (NoCell.list no)
  have hleb : (le, W.listOf #[.ref (rA 0), .ref (rA 1), .ref (rA 2)] nE) ∈ base := by rw [← hbase]; simp
  have hlib : (li, W.listOf #[.ref (sA 0), .ref (sA 1), .ref (sA 2)] nI) ∈ base := by rw [← hbase]; simp
  have sub : ∀ p ∈ others, p ∈ base := fun p hp => by rw [← hbase]; exact List.mem_cons_of_mem _ (List.mem_cons_of_mem _ hp)
  k_steps
  walk_at "MINE data"
  refine Stop.mk (For_N ?_)
  k_steps
  walk_at "MINE data"
  rename Fr h₀ L _ _ => F1
  rename News h₀ L _ _ => N1
  rename_i lt _ _ l1t lrt hE9
  have hlt1 : ∀ p ∈ cellsL L o1 o2 o3 o4 o5 o6 o7 o8 o9 ++ base, p.1 < lt := by assumption
  have hltc : ∀ p ∈ cellsL L o1 o2 o3 o4 o5 o6 o7 o8 o9, p.1 ≠ lt := fun p hp => Nat.ne_of_lt (hlt1 p (List.mem_append_left _ hp))
  have hltb : ∀ p ∈ base, p.1 ≠ lt := fun p hp => Nat.ne_of_lt (hlt1 p (List.mem_append_right _ hp))
  have hltA : ∀ c ∈ cellAddrs L, c ≠ lt := fun c hc => let ⟨o, ho⟩ := cells_at o1 o2 o3 o4 o5 o6 o7 o8 o9 hc; hltc (c, o) ho
  have hltE : lt < hE9.objs.size := Heap.lt_size (N1 _ (List.mem_cons_self ..)).1
  refine Stop.mk ?_
  have hl2 : Heap.IsList hE9 le #[.ref (rA 0), .ref (rA 1), .ref (rA 2)] := ⟨_, (N1 _ (List.mem_cons_of_mem _ (List.mem_append_right _ hleb))).1, rfl, _, rfl⟩
  have hl1 : Heap.IsList hE9 li #[.ref (sA 0), .ref (sA 1), .ref (sA 2)] := ⟨_, (N1 _ (List.mem_cons_of_mem _ (List.mem_append_right _ hlib))).1, rfl, _, rfl⟩
  have hz6 : L + 1 + 1 + 1 + 1 + 1 + 1 < hE9.objs.size := Heap.lt_size (N1 (L + 1 + 1 + 1 + 1 + 1 + 1, o6) (by walk_at "INS")).1
  have hz8 : L + 1 + 1 + 1 + 1 + 1 + 1 + 1 + 1 < hE9.objs.size := Heap.lt_size (N1 (L + 1 + 1 + 1 + 1 + 1 + 1 + 1 + 1, o8) (by walk_at "INS")).1
  have hz9 : L + 1 + 1 + 1 + 1 + 1 + 1 + 1 + 1 + 1 < hE9.objs.size := Heap.lt_size (N1 (L + 1 + 1 + 1 + 1 + 1 + 1 + 1 + 1 + 1, o9) (by walk_at "INS")).1
  refine loop_zip restSame (fun i m₁ nx => ∃ o6 o8 o9 v6 v8 v9 nT xs, nx = cellsL L o1 o2 o3 o4 o5 o6 o7 o8 o9 ++ ((lt, W.listOf ((xs : List Tb).map fun x => Value.ref x.T).toArray nT) :: (xs.flatMap (tbLed w) ++ base)) ∧ o6.data = .cell v6 ∧ o8.data = .cell v8 ∧ o9.data = .cell v9 ∧ m₁ (Str.ofString "tables") = some (.ref lt) ∧ m₁ (Str.ofString "mark") = some (.str mk tm) ∧
      xs.map tbPairs = (List.range i).map (fun i => carriedZ CH (parT ta tb tc) (FF i) mk) ∧ ∀ p ∈ xs.flatMap (tbLed w), p.1 ≠ lt)
    rfl F1 (front1 N1) hl1 hl2 (list_ne_ns hl1 F1.ns) (list_ne_ns hl2 F1.ns) ⟨o6, o8, o9, v6, v8, v9, 0, [], rfl, e6, e8, e9, rfl, hmm, rfl, fun _ h => nomatch h⟩ ?_ ?_ hE
  · intro j x y Tp m₁ nx s₂ own2 wr' hj1 hj2 z1q ha2 hw2 how2 hmo2 hr2 F₂ N₂ hT
    obtain ⟨o6, o8, o9, v6, v8, v9, nT, xs, rfl, e6, e8, e9, mt, mm, hxs, hxl⟩ := z1q
    obtain ⟨h₄, gn₄, dr₄, tk₄, os₄⟩ := s₂
    have z2q : j < 3 ∧ x = .ref (sA j) ∧ y = .ref (rA j) := by
      have := (Array.getElem?_eq_some_iff.mp hj1).1
      simp at this
      rcases (by omega : j = 0 ∨ j = 1 ∨ j = 2) with rfl | rfl | rfl
      · exact ⟨by decide, (Option.some.inj hj1).symm, (Option.some.inj hj2).symm⟩
      · exact ⟨by decide, (Option.some.inj hj1).symm, (Option.some.inj hj2).symm⟩
      · exact ⟨by decide, (Option.some.inj hj1).symm, (Option.some.inj hj2).symm⟩
    obtain ⟨hj3, rfl, rfl⟩ := z2q
    dsimp only at F₂ N₂ hT ⊢
    generalize hR : (lt, W.listOf (xs.map fun x => Value.ref x.T).toArray nT) :: (xs.flatMap (tbLed w) ++ base) = R at N₂ ha2
    have hnR : NoCell R := by rw [← hR]; exact NoCell.list (NoCell.append (flat_noCell (tb_noCell w) xs) hnb)
    have subR : ∀ p ∈ base, p ∈ R := fun p hp => by rw [← hR]; exact List.mem_cons_of_mem _ (List.mem_append_right _ hp)
    have hltR : (lt, W.listOf (xs.map fun x => Value.ref x.T).toArray nT) ∈ R := by rw [← hR]; exact List.mem_cons_self ..
    have fitj := hfit j hj3
    k_steps
    walk_at "MINE data"
    rename Fr h₀ L _ _ => F5
    rename News h₀ L _ _ => N5
    rw [List.append_assoc] at N5
    rename_i hB9
    have hoff : ∀ (c : Addr) (o : Obj) (v : Option Value), (c, o) ∈ cellsL L o1 o2 o3 o4 o5 o6 o7 o8 o9 → o.data = .cell v → c < hE9.objs.size → ∀ p ∈ R ++ own2, p.1 ≠ c := by
      intro c o v hc hd hcs p hp
      rcases List.mem_append.mp hp with hp' | hp'
      · exact ne_cell N5 (List.mem_append_left _ hc) hd (List.mem_append_right _ hp) (hnR p hp')
      · rcases how2 p hp' with h | h | h
        · rw [h]; exact ne_cell N5 (p := (li, W.listOf #[.ref (sA 0), .ref (sA 1), .ref (sA 2)] nI)) (List.mem_append_left _ hc) hd (List.mem_append_right _ (List.mem_append_left _ (subR _ hlib))) (fun v e => by cases e)
        · rw [h]; exact ne_cell N5 (p := (le, W.listOf #[.ref (rA 0), .ref (rA 1), .ref (rA 2)] nE)) (List.mem_append_left _ hc) hd (List.mem_append_right _ (List.mem_append_left _ (subR _ hleb))) (fun v e => by cases e)
        · exact Nat.ne_of_gt (Nat.lt_of_lt_of_le hcs h)
    have off6 := hoff (L + 1 + 1 + 1 + 1 + 1 + 1) o6 v6 (by walk_at "INS") e6 hz6
    have off8 := hoff (L + 1 + 1 + 1 + 1 + 1 + 1 + 1 + 1) o8 v8 (by walk_at "INS") e8 hz8
    have off9 := hoff (L + 1 + 1 + 1 + 1 + 1 + 1 + 1 + 1 + 1) o9 v9 (by walk_at "INS") e9 hz9
    clear hoff
    refine Stop.mk (s2_row F5 N5 off6 e6 fun h6 o6' F6 N6 d6 => ?_)
    clear F5 N5
    k_steps
    walk_at "MINE data"
    rename Fr h₀ L _ _ => F7
    rename News h₀ L _ _ => N7
    refine Stop.mk (s2_due F7 N7 off8 e8 fun h8 o8' F8 N8 d8 => ?_)
    clear F7 N7
    refine wpAny_pure (a := ()) ?_
    change wpAny _ _ (execs (loopBody.drop 0) (lawEnv L a cd)) _ _ _
    have upR : ∀ {P : Heap → Prop}, Sure others P → Sure (R ++ own2) P := fun hP => Sure.mono hP fun p hp => List.mem_append_left _ (subR p (sub p hp))
    refine list_seg loopBody 0 1 _ (fun s1 h1 => ?_) (bod0 (rest := R ++ own2) (qj := qA j) (kj := kA j) (fj := FF j) B F8 X N8 T e1 d6 d8 (upR hns) hnm (upR (hsA j hj3)) (hqA j hj3) (upR (hrA j hj3)) (hkA j hj3) fitj.low)
    refine list_seg loopBody 1 1 _ (fun s2 h2 => ?_) (bod1 (rest := R ++ own2) (qj := qA j) (fj := FF j) (tm := tm) B h1.fr X h1.news T e1 e2 e4 d6 e9 mm (upR hns) hnm (upR hps) hpm (hC.mono fun p hp => List.mem_append_left _ (subR p (sub p hp))) (upR (hsA j hj3)) (hqA j hj3) fitj.fit hmk hmk0 hmk2 off9)
    obtain ⟨o9', Tt, dT, lh, t9, n9, hs, sm2, F10, N10, d9, hpr, hfr1, hfr2⟩ := h2.out
    have hkeys : hs.map (fun h => h.2.1.1) = [Str.ofString "B", Str.ofString "ab", Str.ofString "BA", Str.ofString "bab"] := by
      have := congrArg (List.map (·.1)) hpr
      rw [List.map_map] at this
      exact this
    have hlen4 : hs.length = 4 := by simpa using congrArg List.length hkeys
    have hfr3 : ∀ q ∈ cellsL L o1 o2 o3 o4 o5 o6' o7 o8' o9', q.1 ≠ Tt ∧ q.1 ≠ dT ∧ q.1 ≠ lh ∧ ∀ h ∈ hs, h.1 ≠ q.1 := hfr2
    refine list_seg loopBody 2 1 _ (fun s3 h3 => ?_) (bod2 (rest := R ++ own2) B F10 X N10 T d9 hkeys (fun q hq => (hfr1 q hq).2.2.1) (fun q hq => (hfr3 q hq).2.2.1))
    refine list_seg loopBody 3 1 _ (fun s4 h4 => ?_) (bod3 (rest := R ++ own2) B h3.fr X h3.news T e1 d9 hkeys (upR hns) hnm)
    refine list_seg loopBody 4 1 _ (fun s5 h5 => ?_) (bod4 (rest := R ++ own2) (kj := kA j) (fj := FF j) (tm := tm) B h4.fr X h4.news T d8 d9 mm hlen4 hmk hmk0 (upR (hrA j hj3)) (hkA j hj3) (fun h hh => fitj.way (h.2.1.1, h.2.2.1) (by rw [← hpr]; exact List.mem_map_of_mem hh)) (by rw [hpr]; exact fitj.along))
    have hxj : xs.length = j := by simpa using congrArg List.length hxs
    have hqlt := hfr1 _ (List.mem_append_left own2 hltR)
    have htabs : ∀ p ∈ tabLed w Tt dT lh t9 n9 hs, ∀ c : Addr, (c ≠ Tt ∧ c ≠ dT ∧ c ≠ lh ∧ ∀ h ∈ hs, h.1 ≠ c) → p.1 ≠ c := by
      intro p hp c hc
      simp only [tabLed, List.mem_cons, hdLed, List.mem_map] at hp
      rcases hp with rfl | rfl | rfl | ⟨h, hh, rfl⟩
      · exact hc.1.symm
      · exact hc.2.1.symm
      · exact hc.2.2.1.symm
      · exact hc.2.2.2 h hh
    have N11 : News h₀ L s5.heap (cellsL L o1 o2 o3 o4 o5 o6' o7 o8' o9' ++ ((lt, W.listOf (xs.map fun x => Value.ref x.T).toArray nT) :: (tabLed w Tt dT lh t9 n9 hs ++ ((xs.flatMap (tbLed w) ++ base) ++ own2)))) := h5.news.perm fun p hp => by
      rw [← hR]
      (revert hp; revert p; walk_at "SUB")
    refine list_seg loopBody 5 1 _ (fun s6 h6 => ?_) (bod5 B h5.fr X N11 T d9 mt (by simp [hxj]; omega) ?_ fun p hp => hltA _ (cells_addr hp))
    · change wpAny _ _ (execs [] (lawEnv L a cd)) _ _ _
      have sm : Same _ s6 := hr2.trans ((Same.trans ⟨h1.same.bare, h1.same.drawn, h1.same.os⟩ (sm2.trans (h3.same.trans (h4.same.trans (h5.same.trans h6.same))))))
      try walk_at "QK"
      refine wpAny_execs_nil (.next ⟨m₁, cellsL L o1 o2 o3 o4 o5 o6' o7 o8' o9' ++ ((lt, W.listOf ((xs ++ [Tb.mk Tt dT lh t9 n9 hs]).map fun x => Value.ref x.T).toArray (nT + 1)) :: ((xs ++ [Tb.mk Tt dT lh t9 n9 hs]).flatMap (tbLed w) ++ base)), sm, h6.fr, h6.news.perm fun p hp => ?_, fun p hp hw => ?_, o6', o8', o9', _, _, _, nT + 1, xs ++ [Tb.mk Tt dT lh t9 n9 hs], rfl, d6, d8, d9, mt, mm, ?_, fun p hp => ?_⟩)
      · have hv9 : ((xs ++ [Tb.mk Tt dT lh t9 n9 hs]).map fun x => Value.ref x.T).toArray = (xs.map fun x => Value.ref x.T).toArray.push (.ref Tt) := by simp
        rw [hv9] at hp
        (revert hp; revert p; (try simp only [List.flatMap_append, List.flatMap_cons, List.flatMap_nil, List.append_nil, tbLed]); walk_at "SUB")
      · rcases List.mem_append.mp hp with hp | hp
        · obtain ⟨o, ho⟩ := cells_at o1 o2 o3 o4 o5 o6 o7 o8 o9 (cells_addr hp)
          exact ha2 (p.1, o) (List.mem_append_left _ ho) hw
        · rcases List.mem_cons.mp hp with rfl | hp
          · exact ha2 _ (List.mem_append_right _ hltR) hw
          · rcases List.mem_append.mp hp with hp | hp
            · rw [List.flatMap_append] at hp
              rcases List.mem_append.mp hp with hp | hp
              · exact ha2 p (List.mem_append_right _ (by rw [← hR]; exact List.mem_cons_of_mem _ (List.mem_append_left _ hp))) hw
              · obtain ⟨o, ho⟩ := hmo2 _ hw
                exact htabs p (by simpa using hp) p.1 (hfr1 (p.1, o) (List.mem_append_right _ ho)) rfl
            · exact ha2 p (List.mem_append_right _ (subR p hp)) hw
      · rw [List.map_append, hxs, List.range_succ, List.map_append]
        simp [tbPairs, hpr]
      · rw [List.flatMap_append] at hp
        rcases List.mem_append.mp hp with hp | hp
        · exact hxl p hp
        · exact htabs p (by simpa using hp) lt hqlt
    · intro p hp
      rcases List.mem_append.mp hp with hp | hp
      · exact htabs p hp lt hqlt
      · rcases List.mem_append.mp hp with hp | hp
        · exact (List.mem_append.mp hp).elim (hxl p) (hltb p)
        · rcases how2 p hp with h | h | h
          · rw [h]; exact hltb _ hlib
          · rw [h]; exact hltb _ hleb
          · exact Nat.ne_of_gt (Nat.lt_of_lt_of_le hltE h)
  · intro m₃ nx s₃ hr₃ F₃ N₃ z3q
    obtain ⟨o6, o8, o9, v6, v8, v9, nT, xs, rfl, e6, e8, e9, mt, mm, hxs, hxl⟩ := z3q
    try walk_at "QK"
    refine wpAny_execs_nil ⟨rfl, ⟨m₃, o6, o8, o9, lt, nT, xs, ⟨hr₃.bare, hr₃.drawn, hr₃.os⟩, F₃, N₃, mt, by rw [mm, hmm], hxs, ⟨_, e6⟩, ⟨_, e8⟩, ⟨_, e9⟩⟩⟩
end SN40
section SN41
set_option maxHeartbeats 8000000
local macro_rules | `(tactic| walk_at "compareOp NotEq ref ref") => `(tactic| walk_at "STOP")
local macro_rules | `(tactic| walk_at "exec If") => `(tactic| walk_at "STOP")
local macro_rules | `(tactic| walk_at "subscriptTail Name Constant ref int") => `(tactic| walk_at "STOP")
local macro_rules | `(tactic| walk_at "subscriptTail Subscript Name ref str") => `(tactic| walk_at "STOP")
theorem find4 {hs : List Hd} {w1 w2 w3 w4 : Str} (h : hs.map (fun h => (h.2.1.1, h.2.2.1)) = [(Str.ofString "B", w1), (Str.ofString "ab", w2), (Str.ofString "BA", w3), (Str.ofString "bab", w4)]) (x : Str) :
    (Txt.lower x = nameK 1 → ∃ t, getV x hs = .str w1 t) ∧ (Txt.lower x = nameK 2 → ∃ t, getV x hs = .str w2 t) ∧ (Txt.lower x = nameK 3 → ∃ t, getV x hs = .str w3 t) ∧ (Txt.lower x = nameK 4 → ∃ t, getV x hs = .str w4 t) := by
  have hl : hs.length = 4 := by simpa using congrArg List.length h
  obtain ⟨h1, h2, h3, h4, rfl⟩ := four_of hl
  · 
    simp only [List.map_cons, List.map_nil, List.cons.injEq, Prod.mk.injEq, and_true] at h
    obtain ⟨⟨a1, rfl⟩, ⟨a2, rfl⟩, ⟨a3, rfl⟩, ⟨a4, rfl⟩⟩ := h
    have b1 : Txt.lower h1.2.1.1 = nameK 1 := by rw [a1]; decide +kernel
    have b2 : Txt.lower h2.2.1.1 = nameK 2 := by rw [a2]; decide +kernel
    have b3 : Txt.lower h3.2.1.1 = nameK 3 := by rw [a3]; decide +kernel
    have b4 : Txt.lower h4.2.1.1 = nameK 4 := by rw [a4]; decide +kernel
    have n12 : (nameK 1 == nameK 2) = false := by decide +kernel
    have n13 : (nameK 1 == nameK 3) = false := by decide +kernel
    have n14 : (nameK 1 == nameK 4) = false := by decide +kernel
    have n23 : (nameK 2 == nameK 3) = false := by decide +kernel
    have n24 : (nameK 2 == nameK 4) = false := by decide +kernel
    have n34 : (nameK 3 == nameK 4) = false := by decide +kernel
    have r : ∀ k, (nameK k == nameK k) = true := fun k => by simp
    refine ⟨fun e => ⟨h1.2.2.2, ?_⟩, fun e => ⟨h2.2.2.2, ?_⟩, fun e => ⟨h3.2.2.2, ?_⟩, fun e => ⟨h4.2.2.2, ?_⟩⟩ <;> unfold getV getHd <;> simp only [List.find?_cons, List.find?_nil, b1, b2, b3, b4, e, n12, n13, n14, n23, n24, n34, r]
theorem get_row {CH : Nat → List Str} {p g : Nat → Nat} {mk : Str} {hs : List Hd} (h : hs.map (fun h => (h.2.1.1, h.2.2.1)) = carriedZ CH p g mk) {k : Nat} (h0 : 0 < k) (h5 : k < 5) {x : Str} (hx : Txt.lower x = nameK k) : ∃ t, getV x hs = .str (wayG CH p g mk k) t := by
  obtain ⟨q1, q2, q3, q4⟩ := find4 h x
  rcases (by omega : k = 1 ∨ k = 2 ∨ k = 3 ∨ k = 4) with rfl | rfl | rfl | rfl
  · exact q1 hx
  · exact q2 hx
  · exact q3 hx
  · exact q4 hx
theorem f_up : ∀ k < 5, 0 < k → okText (Txt.lower (Txt.upper (nameK k))) ∧ (Txt.upper (nameK k)).length ≤ 1000 ∧ Txt.lower (Txt.upper (nameK k)) = nameK k ∧ okText (Txt.lower (nameK k)) ∧ (nameK k).length ≤ 1000 ∧ Txt.lower (nameK k) = nameK k := by decide +kernel
theorem CtrK.useL1 {w : World} {D U : Nat} {f : Value} {vs : List Value} {kw : List (Str × Value)} {news : Led} {Out : Value → Led → Prop} (Ct : CtrK w D U f vs kw news Out)
    {mean : ExcName → Option Value} {mg mb : Str → Option Value} {n : Str} {sc : Scope} {L' a' : Addr} {cd : Value} {base h₀ : Heap} {m : Str → Option Value} {s : Shared} {Q E : Value → Shared → Prop}
    (hD : 302 ≤ D) (hU : (callerA.deeper (envOfC n sc L' a' cd)).in1.units ≤ U) (B : Below callerA base [] h₀) (F : Fr h₀ L' s.heap m) (X : (hd.heap_1 w.params).In h₀) (N : News h₀ L' s.heap news) (T : Top topProg looseG mean mg mb h₀) (hk : sc.kind = .function)
    (h : ∀ (v : Value) (news' : Led) (h' : Heap) (tk' : Nat), Out v news' → Fr h₀ L' h' m → News h₀ L' h' news' → Q v { s with heap := h', toks := tk' }) :
    wpAny (model PySem.Challenge.pw_wv0033_01 w) (callerA.deeper (envOfC n sc L' a' cd)).in1 (call f vs kw) Q E s :=
  Ct.use (dp := (callerA.deeper (envOfC n sc L' a' cd)).in1.depth) (un := (callerA.deeper (envOfC n sc L' a' cd)).in1.units) (gd := some []) (cn := n) (cs := sc) (a := a') (ccd := cd) (cl := (envOfC n sc L' a' cd).cells) (outer := []) (A₀ := callerA) (base := base) (L := L') hD hU B F X N T hk h
structure KFit (CH : Nat → List Str) (p f g : Nat → Nat) (mk : Str) : Prop where
  out : ∀ hs : List Hd, hs.map (fun h => (h.2.1.1, h.2.2.1)) = carriedZ CH p g mk → ∀ k < 5, 0 < k → WalkFit mk hs (wayG CH p f mk k) ∧ walkedZ mk hs (wayG CH p f mk k) = wayG CH p (fun k => g (f k)) mk k
theorem mv0 {A B C D R O : Led} {c : Addr × Obj} : ∀ p ∈ B ++ (A ++ (c :: (C ++ (D ++ R))) ++ O), p ∈ A ++ (c :: (B ++ (C ++ (D ++ R)))) ++ O := by
  intro p hp; (revert hp; revert p; walk_at "SUB")
theorem mv0' {A B C D R O : Led} {c : Addr × Obj} : ∀ p ∈ A ++ (c :: (B ++ (C ++ (D ++ R)))) ++ O, p ∈ B ++ (A ++ (c :: (C ++ (D ++ R))) ++ O) := by
  intro p hp; (revert hp; revert p; walk_at "SUB")
theorem mv1 {A B C D R O : Led} {c : Addr × Obj} : ∀ p ∈ C ++ (A ++ (c :: (B ++ (D ++ R))) ++ O), p ∈ A ++ (c :: (B ++ (C ++ (D ++ R)))) ++ O := by
  intro p hp; (revert hp; revert p; walk_at "SUB")
theorem mv1' {A B C D R O : Led} {c : Addr × Obj} : ∀ p ∈ A ++ (c :: (B ++ (C ++ (D ++ R)))) ++ O, p ∈ C ++ (A ++ (c :: (B ++ (D ++ R))) ++ O) := by
  intro p hp; (revert hp; revert p; walk_at "SUB")
theorem mv2 {A B C D R O : Led} {c : Addr × Obj} : ∀ p ∈ D ++ (A ++ (c :: (B ++ (C ++ R))) ++ O), p ∈ A ++ (c :: (B ++ (C ++ (D ++ R)))) ++ O := by
  intro p hp; (revert hp; revert p; walk_at "SUB")
theorem mv2' {A B C D R O : Led} {c : Addr × Obj} : ∀ p ∈ A ++ (c :: (B ++ (C ++ (D ++ R)))) ++ O, p ∈ D ++ (A ++ (c :: (B ++ (C ++ R))) ++ O) := by
  intro p hp; (revert hp; revert p; walk_at "SUB")
theorem segK {w : World} {mean : ExcName → Option Value} {mg mb : Str → Option Value} {h₀ : Heap} {L a : Addr} {cd : Value} {m : Str → Option Value} {s : Shared} {Q : Flow → Shared → Prop} {E : Value → Shared → Prop} {o1 o2 o3 o4 o5 o6 o7 o8 o9 : Obj} {rest : Led} {ln lt : Addr} {nT : Nat} {x0 x1 x2 : Tb} {ns : List (Str × Tok)} {CH : Nat → List Str} {p f g : Nat → Nat} {mk : Str} {tm : Tok}
    (B : Below callerA h₀ [] h₀) (F : Fr h₀ L s.heap m) (X : (hd.heap_1 w.params).In h₀)
    (N : News h₀ L s.heap (cellsL L o1 o2 o3 o4 o5 o6 o7 o8 o9 ++ ((lt, W.listOf #[.ref x0.T, .ref x1.T, .ref x2.T] nT) :: (tbLed w x0 ++ (tbLed w x1 ++ (tbLed w x2 ++ rest)))))) (T : Top topProg looseG mean mg mb h₀)
    (e1 : o1.data = .cell (some (.ref ln))) (hmt : m (Str.ofString "tables") = some (.ref lt)) (hmm : m (Str.ofString "mark") = some (.str mk tm))
    (hns : Sure rest fun h => h.IsList ln (strValues ns).toArray) (hnm : ns.map (·.1) = NAMES) (hmk : mk.length ≤ 100) (hmk0 : (mk.length == 0) = false)
    (hx0 : tbPairs x0 = carriedZ CH p f mk) (hx1 : tbPairs x1 = carriedZ CH p g mk) (hx2 : tbPairs x2 = carriedZ CH p (fun k => g (f k)) mk) (hfit : KFit CH p f g mk)
    (hE : PassesOwn (model Challenge.pw_wv0033_01 w) (lawA L a cd) (lawEnv L a cd) E)
    (hQ : ∀ s' m', Same s s' → Fr h₀ L s'.heap m' → News h₀ L s'.heap rest → Q (.ret (.bool true)) s') :
    wpAny (model Challenge.pw_wv0033_01 w) (lawA L a cd) (execs (lawDef.1.drop 17) (lawEnv L a cd)) Q E s := by
  revert w mean mg mb h₀ L a cd m s Q E o1 o2 o3 o4 o5 o6 o7 o8 o9 rest ln lt nT x0 x1 x2 ns CH p f g mk tm
  intro PK w mean mg mb h₀ L a cd m s Q E o1 o2 o3 o4 o5 o6 o7 o8 o9 rest ln lt nT
  intro PK x0 x1 x2 ns CH p f g mk tm
  intro B F X N T e1 hmt hmm hns hnm hmk hmk0 hx0 hx1 hx2 hfit hE hQ
  walk_at "MINE fill"
  conv in List.drop _ _ => whnf
  have z1q : ∃ t0 t1 t2 t3 t4, ns = [(nameK 0, t0), (nameK 1, t1), (nameK 2, t2), (nameK 3, t3), (nameK 4, t4)] := prs5 hnm
  obtain ⟨t0, t1, t2, t3, t4, rfl⟩ := z1q
  have len4 : ∀ {hs : List Hd} {f : Nat → Nat}, hs.map (fun h => (h.2.1.1, h.2.2.1)) = carriedZ CH p f mk → hs.length = 4 := fun h => by simpa [carriedZ] using congrArg List.length h
  have keys4 : ∀ {hs : List Hd} {f : Nat → Nat}, hs.map (fun h => (h.2.1.1, h.2.2.1)) = carriedZ CH p f mk → ∀ x ∈ hs, x.2.1.1.length ≤ 1000 := fun {hs f} h => key_len (by
    have := congrArg (List.map (·.1)) h
    rw [List.map_map] at this
    exact this)
  k_steps
  walk_at "MINE data"
  refine Stop.mk (For_N ?_)
  k_steps
  walk_at "MINE data"
  rename Fr h₀ L _ _ => F1
  rename News h₀ L _ _ => N1
  refine Stop.mk (slice_N (lo := some 1) (hi := none) (st := none) F1 N1 (fun b o e => Heap.get?_push_of_some _ e) (hns _ fun p hp => (N1 p (by simp only [List.mem_append, List.mem_cons]; simp [hp])).1) (Heap.IsSliceOf.new ..) (.int _ _) .none .none (by decide) (slice_tail _ _ _ _ _) (by simp [strValues, sizeLine]) ?_)
  intro D8 h8' hk8 F8 N8 lD8
  dsimp only
  clear F1 N1
  have hl8 : h8'.IsList D8 (strValues [(nameK 1, t1), (nameK 2, t2), (nameK 3, t3), (nameK 4, t4)]).toArray := ⟨_, (N8 _ (List.mem_cons_self ..)).1, rfl, 0, rfl⟩
  have hes : ∀ (j : Nat) (hj : j < [(nameK 1, t1), (nameK 2, t2), (nameK 3, t3), (nameK 4, t4)].length), ([(nameK 1, t1), (nameK 2, t2), (nameK 3, t3), (nameK 4, t4)][j]'hj).1 = nameK (j + 1) := by
    intro j hj
    rcases (by simp at hj; omega : j = 0 ∨ j = 1 ∨ j = 2 ∨ j = 3) with rfl | rfl | rfl | rfl <;> rfl
  have hel : [(nameK 1, t1), (nameK 2, t2), (nameK 3, t3), (nameK 4, t4)].length = 4 := rfl
  generalize [(nameK 1, t1), (nameK 2, t2), (nameK 3, t3), (nameK 4, t4)] = es at hl8 hes hel
  have N9 := N8.perm fun p hp => List.mem_cons_of_mem _ hp
  clear N8
  refine loop_listH (fun i m₁ nx => nx = cellsL L o1 o2 o3 o4 o5 o6 o7 o8 o9 ++ ((lt, W.listOf #[.ref x0.T, .ref x1.T, .ref x2.T] nT) :: (tbLed w x0 ++ (tbLed w x1 ++ (tbLed w x2 ++ rest)))) ∧ m₁ (Str.ofString "tables") = some (.ref lt) ∧ m₁ (Str.ofString "mark") = some (.str mk tm))
    rfl F8 N9 hl8 (list_ne_ns hl8 F8.ns) (fun v hv => ?_) ⟨rfl, hmt, hmm⟩ ?_ ?_ hE
  · have z2q : ∃ q ∈ es, Value.str q.1 q.2 = v := by
      simp only [strValues, List.mem_toArray, List.mem_map] at hv
      obtain ⟨q, hq, rfl⟩ := hv
      exact ⟨q, hq, rfl⟩
    obtain ⟨q, _, rfl⟩ := z2q
    exact GoList.name
  · intro j v m₁ nx h₃ tk₃ own I hj z3q hnI hIs how hmI F₁ N₁ hls
    obtain ⟨rfl, m1, m2⟩ := z3q
    try dsimp only at F₁ N₁ hls ⊢
    have hjn : j < es.length := by
      have := (Array.getElem?_eq_some_iff.mp hj).1; simpa [strValues] using this
    obtain rfl : .str (es[j]'hjn).1 (es[j]'hjn).2 = v := Option.some.inj ((item_str hjn).symm.trans hj)
    rw [hes j hjn]
    generalize (es[j]'hjn).2 = tz
    have fu := f_up (j + 1) (by omega) (by omega)
    obtain ⟨u0, hg0⟩ := get_row hx0 (k := j + 1) (by omega) (by omega) fu.2.2.1
    obtain ⟨u2, hg2⟩ := get_row hx2 (k := j + 1) (by omega) (by omega) fu.2.2.2.2.2
    obtain ⟨wf, we⟩ := hfit.out x1.hs hx1 (j + 1) (by omega) (by omega)
    generalize nameK (j + 1) = z at fu hg0 hg2 ⊢
    have hzl := fu.2.2.2.2.1
    k_steps
    walk_at "MINE data"
    refine Stop.mk (wpAny_If ?_)
    k_steps
    walk_at "MINE data"
    rename Fr h₀ L _ _ => F5
    rename News h₀ L _ _ => N5
    refine Stop.mk (item_list (x := .ref x0.T) (⟨_, (N5 (lt, W.listOf #[.ref x0.T, .ref x1.T, .ref x2.T] nT) (by walk_at "INS")).1, rfl, _, rfl⟩ : Heap.IsList _ lt #[.ref x0.T, .ref x1.T, .ref x2.T]) (by decide) (by decide) rfl ?_)
    k_steps
    walk_at "MINE data"
    refine Stop.mk ?_
    have N6 := N5.perm (news' := tbLed w x0 ++ (cellsL L o1 o2 o3 o4 o5 o6 o7 o8 o9 ++ ((lt, W.listOf #[.ref x0.T, .ref x1.T, .ref x2.T] nT) :: (tbLed w x1 ++ (tbLed w x2 ++ rest))) ++ own)) (fun p hp => mv0 p hp)
    refine (get_ok w (T := x0.T) (dT := x0.dT) (lh := x0.lh) (t := x0.t) (n := x0.n) (hs := x0.hs) (x := Txt.upper z) (news := cellsL L o1 o2 o3 o4 o5 o6 o7 o8 o9 ++ ((lt, W.listOf #[.ref x0.T, .ref x1.T, .ref x2.T] nT) :: (tbLed w x1 ++ (tbLed w x2 ++ rest))) ++ own) fu.1 fu.2.1 (keys4 hx0) (by have := len4 hx0; omega)).useL (Nat.le_of_ble_eq_true rfl) (Nat.le_of_ble_eq_true rfl) B F5 X N6 T rfl fun v nx h₇ tk₇ hv F7 N7 => ?_
    obtain ⟨rfl, rfl⟩ := hv
    rw [hg0]
    replace N7 := N7.perm (news' := cellsL L o1 o2 o3 o4 o5 o6 o7 o8 o9 ++ ((lt, W.listOf #[.ref x0.T, .ref x1.T, .ref x2.T] nT) :: (tbLed w x0 ++ (tbLed w x1 ++ (tbLed w x2 ++ rest)))) ++ own) (fun p hp => mv0' (B := tbLed w x0) p hp)
    clear F5 N5 N6 F₁ N₁
    k_steps
    walk_at "MINE data"
    refine Stop.mk (item_list (x := .ref x1.T) (⟨_, (N7 (lt, W.listOf #[.ref x0.T, .ref x1.T, .ref x2.T] nT) (by walk_at "INS")).1, rfl, _, rfl⟩ : Heap.IsList _ lt #[.ref x0.T, .ref x1.T, .ref x2.T]) (by decide) (by decide) rfl ?_)
    k_steps
    walk_at "MINE data"
    refine Stop.mk ?_
    have N8 := N7.perm (news' := tbLed w x1 ++ (cellsL L o1 o2 o3 o4 o5 o6 o7 o8 o9 ++ ((lt, W.listOf #[.ref x0.T, .ref x1.T, .ref x2.T] nT) :: (tbLed w x0 ++ (tbLed w x2 ++ rest))) ++ own)) (fun p hp => mv1 p hp)
    refine (walked_ok w (T := x1.T) (dT := x1.dT) (lh := x1.lh) (t := x1.t) (n := x1.n) (hs := x1.hs) (way := wayG CH p f mk (j + 1)) (mk := mk) (news := cellsL L o1 o2 o3 o4 o5 o6 o7 o8 o9 ++ ((lt, W.listOf #[.ref x0.T, .ref x1.T, .ref x2.T] nT) :: (tbLed w x0 ++ (tbLed w x2 ++ rest))) ++ own) hmk0 hmk wf).useL (Nat.le_of_ble_eq_true rfl) (Nat.le_of_ble_eq_true rfl) B F7 X N8 T rfl fun v nx h₈ tk₈ hv F9 N9 => ?_
    obtain ⟨⟨kw, rfl⟩, rfl⟩ := hv
    rw [we]
    replace N9 := N9.perm (news' := cellsL L o1 o2 o3 o4 o5 o6 o7 o8 o9 ++ ((lt, W.listOf #[.ref x0.T, .ref x1.T, .ref x2.T] nT) :: (tbLed w x0 ++ (tbLed w x1 ++ (tbLed w x2 ++ rest)))) ++ own) (fun p hp => mv1' (C := tbLed w x1) p hp)
    clear F7 N7 N8
    k_steps
    walk_at "MINE data"
    refine Stop.mk (item_list (x := .ref x2.T) (⟨_, (N9 (lt, W.listOf #[.ref x0.T, .ref x1.T, .ref x2.T] nT) (by walk_at "INS")).1, rfl, _, rfl⟩ : Heap.IsList _ lt #[.ref x0.T, .ref x1.T, .ref x2.T]) (by decide) (by decide) rfl ?_)
    k_steps
    walk_at "MINE data"
    have N10 := N9.perm (news' := tbLed w x2 ++ (cellsL L o1 o2 o3 o4 o5 o6 o7 o8 o9 ++ ((lt, W.listOf #[.ref x0.T, .ref x1.T, .ref x2.T] nT) :: (tbLed w x0 ++ (tbLed w x1 ++ rest))) ++ own)) (fun p hp => mv2 p hp)
    refine Stop.mk (sub_K (f := 118) (C := 193) F9 X (by k_inst) (by k_is) (by k_is) (by k_is) ?_ (by with_unfolding_all rfl))
    refine (item_ok w (T := x2.T) (dT := x2.dT) (lh := x2.lh) (t := x2.t) (n := x2.n) (hs := x2.hs) (x := z) (tk := tz) (news := cellsL L o1 o2 o3 o4 o5 o6 o7 o8 o9 ++ ((lt, W.listOf #[.ref x0.T, .ref x1.T, .ref x2.T] nT) :: (tbLed w x0 ++ (tbLed w x1 ++ rest))) ++ own) fu.2.2.2.1 fu.2.2.2.2.1 (keys4 hx2) (by have := len4 hx2; omega)).useL1 (Nat.le_of_ble_eq_true rfl) (Nat.le_of_ble_eq_true rfl) B F9 X N10 T rfl fun v nx h₁₁ tk₁₁ hv F11 N11 => ?_
    obtain ⟨rfl, rfl⟩ := hv
    rw [hg2]
    replace N11 := N11.perm (news' := cellsL L o1 o2 o3 o4 o5 o6 o7 o8 o9 ++ ((lt, W.listOf #[.ref x0.T, .ref x1.T, .ref x2.T] nT) :: (tbLed w x0 ++ (tbLed w x1 ++ (tbLed w x2 ++ rest)))) ++ own) (fun p hp => mv2' (D := tbLed w x2) p hp)
    clear F9 N9 N10
    k_steps
    walk_at "MINE data"
    · walk_at "MINE data"
      try k_steps
      exact .next ⟨_, _, ht_mk, F11, N11, fun p hp => by simpa using hnI p hp, rfl, m1, m2⟩
  · intro m' nx h₃ tk₃ F₁ N₁ z4q
    obtain ⟨rfl, m1, m2⟩ := z4q
    try dsimp only at F₁ N₁ ⊢
    clear N9 F8
    k_steps
    try walk_at "MINE data"
    refine hQ _ _ ?_ F₁ (N₁.perm fun p hp => by
      simp only [List.mem_append, List.mem_cons]
      exact .inr (.inr (.inr (.inr (.inr hp)))))
    exact ⟨fun h => h, rfl, rfl⟩
end SN41
end R8
section SP4
set_option maxHeartbeats 4000000
set_option synthInstance.maxHeartbeats 400000
set_option synthInstance.maxSize 4096
theorem ok_pair {a b c i j : Nat} (ha : a < 2) (hb : b < 3) (hc : c < 4) (hi : i < 5) (hj : j < 5) {mk : Str} (hm : mk ∈ MARKS) : okPair (chN (tree a b c) i) (chN (tree a b c) j) mk = true := by
  have h2 : ∀ q ∈ allPairs, ∀ mk ∈ marks, okPair q.1 q.2 mk = true := by
    intro q hq
    simp only [allPairs, List.mem_append] at hq
    rcases hq with ((((((hq | hq) | hq) | hq) | hq) | hq) | hq) | hq
    · exact okp0 q hq
    · exact okp1 q hq
    · exact okp2 q hq
    · exact okp3 q hq
    · exact okp4 q hq
    · exact okp5 q hq
    · exact okp6 q hq
    · exact okp7 q hq
  exact h2 _ (in_pairs a ha b hb c hc i hi j hj) mk hm
theorem ch_eq : ∀ a < 2, ∀ b < 3, ∀ c < 4, ∀ i < 5, CHt a b c i = chT (chN (tree a b c) i) := by decide +kernel
theorem ch_len : ∀ a < 2, ∀ b < 3, ∀ c < 4, ∀ i < 5, (CHt a b c i).length ≤ 100 ∧ ∀ z ∈ CHt a b c i, z.length ≤ 100 := by decide +kernel
structure WayFacts (a b c i j : Nat) (mk : Str) : Prop where
  fit : wayFit (CHt a b c i) (CHt a b c j) mk = true
  ok : okText (wayZ (CHt a b c i) (CHt a b c j) mk)
  eq : wayZ (CHt a b c i) (CHt a b c j) mk = textT (wayN (tree a b c) i j) mk
  steps : stepsZ (textT (wayN (tree a b c) i j) mk) mk = (wayN (tree a b c) i j).map stepT
  len : (textT (wayN (tree a b c) i j) mk).length ≤ 900
  num : (wayN (tree a b c) i j).length ≤ 10
  join : JoinOk (Str.ofString "") ((wayN (tree a b c) i j).map fun s => stepT s ++ mk) = true
theorem way_facts {a b c i j : Nat} (ha : a < 2) (hb : b < 3) (hc : c < 4) (hi : i < 5) (hj : j < 5) {mk : Str} (hm : mk ∈ MARKS) : WayFacts a b c i j mk := by
  have h := ok_pair ha hb hc hi hj hm
  unfold okPair at h
  rw [← ch_eq a ha b hb c hc i hi, ← ch_eq a ha b hb c hc j hj] at h
  simp only [Bool.and_eq_true, decide_eq_true_eq] at h
  obtain ⟨⟨⟨⟨⟨⟨h1, h2⟩, h3⟩, h4⟩, h5⟩, h6⟩, h7⟩ := h
  exact ⟨h1, fun d hd => by rw [List.all_eq_true] at h2; exact h2 d hd, h3, h4, h5, h6, h7⟩
theorem leads_valid (ps : List Nat) : ∀ (ss : List Stp) (i j : Nat), leadsTo ps i ss j = true → ∀ s ∈ ss, 0 < s.1 ∧ s.1 < 5
  | [], _, _, _, s, hs => nomatch hs
  | q :: r, i, j, h, s, hs => by
    simp only [leadsTo, Bool.and_eq_true, beq_iff_eq, decide_eq_true_eq] at h
    rcases List.mem_cons.mp hs with rfl | hs
    · exact ⟨h.1.1.2, h.1.2⟩
    · exact leads_valid ps r _ _ h.2 s hs
def allS : List Stp := [(1, true), (1, false), (2, true), (2, false), (3, true), (3, false), (4, true), (4, false)]
theorem valid_all : ∀ (s : Stp), 0 < s.1 ∧ s.1 < 5 → s ∈ allS
  | (0, _), h => absurd h.1 (Nat.lt_irrefl 0)
  | (1, true), _ | (1, false), _ | (2, true), _ | (2, false), _ | (3, true), _ | (3, false), _ | (4, true), _ | (4, false), _ => by decide
  | (k + 5, _), h => absurd h.2 (Nat.not_lt.mpr (Nat.le_add_left 5 k))
theorem way_all {a b c i j : Nat} (ha : a < 2) (hb : b < 3) (hc : c < 4) (hi : i < 5) (hj : j < 5) : ∀ s ∈ wayN (tree a b c) i j, s ∈ allS :=
  fun s hs => valid_all s (leads_valid _ _ i j (t_leads a ha b hb c hc i hi j hj) s hs)
theorem f_back : ∀ s ∈ allS, backZ (stepT s) = stepT (flipS s) := by decide +kernel
theorem f_low : ∀ s ∈ allS, decide (stepT s = Txt.lower (stepT s)) = s.2 := by decide +kernel
theorem f_inj : ∀ s ∈ allS, ∀ t ∈ allS, stepT s = stepT t → s = t := by decide +kernel
theorem f_name : ∀ s ∈ allS, Txt.lower (stepT s) = nameK s.1 := by decide +kernel
theorem f_len : ∀ s ∈ allS, 0 < (stepT s).length ∧ (stepT s).length < 1000 ∧ PyData.strOk (stepT s) = true := by decide +kernel
theorem f_flip : ∀ s ∈ allS, flipS s ∈ allS := by decide
theorem f_ok : ∀ k < 5, okText (nameK k) := by decide +kernel
def keyK (k : Nat) : Str := [Str.ofString "", Str.ofString "B", Str.ofString "ab", Str.ofString "BA", Str.ofString "bab"].getD k ⟨#[]⟩
theorem f_key : ∀ k < 5, 0 < k → Txt.lower (keyK k) = nameK k ∧ (keyK k).length ≤ 900 := by decide +kernel
theorem f_val : ∀ k < 5, 0 < k → ∀ s ∈ allS, ∀ mk ∈ MARKS, stepVal (keyK k) mk (stepT s) = if s.1 = k then (if s.2 then (1 : Int) else -1) else 0 := by decide +kernel
end SP4
section SP5
set_option maxHeartbeats 8000000
section P5
variable {a b c : Nat} {mk : Str} {hs : List Hd} {f g : Nat → Nat}
theorem wayG_eq (ha : a < 2) (hb : b < 3) (hc : c < 4) (hm : mk ∈ MARKS) (hf : ∀ k, f k < 5) (k : Nat) : wayG (CHt a b c) (parT a b c) f mk k = textT (wayN (tree a b c) (f k) (f (parT a b c k))) mk := (way_facts ha hb hc (hf k) (hf _) hm).eq
theorem carry_fit (ha : a < 2) (hb : b < 3) (hc : c < 4) (hm : mk ∈ MARKS) (hf : ∀ k, f k < 5) : CarryFit (CHt a b c) (parT a b c) f mk where
  par k _ := par_lt ha hb hc k
  img k _ := hf k
  fit k _ _ := ⟨(way_facts ha hb hc (hf k) (hf _) hm).fit, (way_facts ha hb hc (hf k) (hf _) hm).ok⟩
  len k hk := ch_len a ha b hb c hc k hk
theorem carried_mem {CH : Nat → List Str} {p : Nat → Nat} {q : Str × Str} (h : q ∈ carriedZ CH p f mk) : ∃ k, 0 < k ∧ k < 5 ∧ q = (keyK k, wayG CH p f mk k) := by
  simp only [carriedZ, List.mem_cons, List.not_mem_nil, or_false] at h
  rcases h with rfl | rfl | rfl | rfl
  · exact ⟨1, by decide, by decide, rfl⟩
  · exact ⟨2, by decide, by decide, rfl⟩
  · exact ⟨3, by decide, by decide, rfl⟩
  · exact ⟨4, by decide, by decide, rfl⟩
theorem row_cnt (hm : mk ∈ MARKS) {k : Nat} (h0 : 0 < k) (h5 : k < 5) (ss : List Stp) (hs : ∀ s ∈ ss, s ∈ allS) : ((ss.map stepT).map (stepVal (keyK k) mk)).sum = cntS k ss := by
  unfold cntS
  rw [List.map_map]
  congr 1
  exact List.map_congr_left fun s h => f_val k h5 h0 s (hs s h) mk hm
theorem row_eq (ha : a < 2) (hb : b < 3) (hc : c < 4) (hm : mk ∈ MARKS) (hf : ∀ k, f k < 5) {k : Nat} (h0 : 0 < k) (h5 : k < 5) : alongRow mk (keyK k, wayG (CHt a b c) (parT a b c) f mk k) = cntS k (wayN (tree a b c) (f k) (f (parT a b c k))) := by
  unfold alongRow
  dsimp only
  rw [wayG_eq ha hb hc hm hf, (way_facts ha hb hc (hf k) (hf _) hm).steps]
  exact row_cnt hm h0 h5 _ (way_all ha hb hc (hf k) (hf _))
theorem j_fit (ha : a < 2) (hb : b < 3) (hc : c < 4) (hm : mk ∈ MARKS) (hf : ∀ k, f k < 5) : JFit (CHt a b c) (parT a b c) f mk where
  low := hf
  fit := carry_fit ha hb hc hm hf
  way q hq := by
    obtain ⟨k, h0, h5, rfl⟩ := carried_mem hq
    have W := way_facts ha hb hc (hf k) (hf (parT a b c k)) hm
    dsimp only
    rw [wayG_eq ha hb hc hm hf]
    refine ⟨W.len, (f_key k h5 h0).2, fun st hst => ?_⟩
    rw [W.steps] at hst
    obtain ⟨s, h, rfl⟩ := List.mem_map.mp hst
    exact (f_len s (way_all ha hb hc (hf k) (hf _) s h)).1
  along := by
    have e := trace_steps ha hb hc (g := f) fun k _ => hf k
    rw [← e]
    have r1 := row_eq ha hb hc hm hf (k := 1) (by decide) (by decide)
    have r2 := row_eq ha hb hc hm hf (k := 2) (by decide) (by decide)
    have r3 := row_eq ha hb hc hm hf (k := 3) (by decide) (by decide)
    have r4 := row_eq ha hb hc hm hf (k := 4) (by decide) (by decide)
    rw [show parT a b c 1 = 0 from rfl] at r1
    rw [show parT a b c 2 = a from rfl] at r2
    rw [show parT a b c 3 = b from rfl] at r3
    rw [show parT a b c 4 = c from rfl] at r4
    rw [← r1, ← r2, ← r3, ← r4]
    show (List.map (alongRow mk) [(keyK 1, _), (keyK 2, _), (keyK 3, _), (keyK 4, _)]).sum = _
    simp only [List.map_cons, List.map_nil, List.sum_cons, List.sum_nil]
    omega
theorem push_eq {l : List Stp} (hl : ∀ s ∈ l, s ∈ allS) {s : Stp} (hs : s ∈ allS) : pushZ (l.map stepT) (stepT s) = (pushS l s).map stepT := by
  unfold pushZ pushS
  rw [List.getLast?_map, f_back s hs]
  have : (l.getLast?.map stepT = some (stepT (flipS s))) ↔ l.getLast? = some (flipS s) := by
    cases h : l.getLast? with
    | none => simp
    | some x =>
      simp only [Option.map_some, Option.some.injEq]
      exact ⟨fun e => f_inj x (hl x (List.mem_of_getLast? h)) _ (f_flip s hs) e, fun e => by rw [e]⟩
  by_cases e : l.getLast? = some (flipS s)
  · rw [if_pos e, if_pos (this.mpr e), List.map_dropLast]
  · rw [if_neg e, if_neg (mt this.mp e), List.map_append]; rfl
theorem push_all {l : List Stp} (hl : ∀ s ∈ l, s ∈ allS) {s : Stp} (hs : s ∈ allS) : ∀ t ∈ pushS l s, t ∈ allS := by
  intro t ht
  unfold pushS at ht
  split at ht
  · exact hl t ((List.dropLast_sublist l).subset ht)
  · rcases List.mem_append.mp ht with h | h
    · exact hl t h
    · obtain rfl := List.mem_singleton.mp h; exact hs
theorem pushes_eq : ∀ (part l : List Stp), (∀ s ∈ l, s ∈ allS) → (∀ s ∈ part, s ∈ allS) → (part.map stepT).foldl pushZ (l.map stepT) = (pushAll l part).map stepT ∧ ∀ t ∈ pushAll l part, t ∈ allS
  | [], l, hl, _ => ⟨rfl, hl⟩
  | s :: part, l, hl, hp => by
    have hs := hp s (List.mem_cons_self ..)
    have ih := pushes_eq part (pushS l s) (push_all hl hs) fun t ht => hp t (List.mem_cons_of_mem _ ht)
    refine ⟨?_, ih.2⟩
    rw [List.map_cons, List.foldl_cons, push_eq hl hs, ih.1]; rfl
theorem part_all (ha : a < 2) (hb : b < 3) (hc : c < 4) (hg : ∀ k, g k < 5) (s : Stp) : ∀ t ∈ partS (tree a b c) g s, t ∈ allS := by
  intro t ht
  unfold partS at ht
  split at ht
  · exact way_all ha hb hc (hg _) (hg _) t ht
  · obtain ⟨q, h, rfl⟩ := List.mem_map.mp ht
    exact f_flip q (way_all ha hb hc (hg _) (hg _) q (List.mem_reverse.mp h))
theorem getS_eq {CH : Nat → List Str} {p : Nat → Nat} (h : hs.map (fun h => (h.2.1.1, h.2.2.1)) = carriedZ CH p g mk) {s : Stp} (hs' : s ∈ allS) : (getHd (stepT s) hs).isSome = true ∧ getS (stepT s) hs = wayG CH p g mk s.1 := by
  have h5 : ∀ s ∈ allS, 0 < s.1 ∧ s.1 < 5 := by decide
  obtain ⟨t, ht⟩ := get_row h (h5 s hs').1 (h5 s hs').2 (f_name s hs')
  unfold getV at ht
  unfold getS
  cases e : getHd (stepT s) hs with
  | none => rw [e] at ht; cases ht
  | some x => rw [e] at ht; simp only [Value.str.injEq] at ht; exact ⟨rfl, ht.1⟩
theorem part_eq (ha : a < 2) (hb : b < 3) (hc : c < 4) (hm : mk ∈ MARKS) (hg : ∀ k, g k < 5) (h : hs.map (fun h => (h.2.1.1, h.2.2.1)) = carriedZ (CHt a b c) (parT a b c) g mk) {s : Stp} (hs' : s ∈ allS) : partZ mk hs (stepT s) = (partS (tree a b c) g s).map stepT := by
  unfold partZ partS
  rw [(getS_eq h hs').2, wayG_eq ha hb hc hm hg, (way_facts ha hb hc (hg s.1) (hg _) hm).steps]
  have hl := f_low s hs'
  cases hs2 : s.2 with
  | true => rw [hs2] at hl; rw [if_pos (of_decide_eq_true hl), if_pos rfl]
  | false =>
    rw [hs2] at hl
    rw [if_neg (of_decide_eq_false hl), if_neg (by decide), ← List.map_reverse, List.map_map, List.map_map]
    exact List.map_congr_left fun q hq => f_back q (way_all ha hb hc (hg _) (hg _) q (List.mem_reverse.mp hq))
theorem walks_eq (ha : a < 2) (hb : b < 3) (hc : c < 4) (hm : mk ∈ MARKS) (hg : ∀ k, g k < 5) (h : hs.map (fun h => (h.2.1.1, h.2.2.1)) = carriedZ (CHt a b c) (parT a b c) g mk) : ∀ (ss l : List Stp), (∀ s ∈ ss, s ∈ allS) → (∀ s ∈ l, s ∈ allS) →
    (ss.map stepT).foldl (fun l st => (partZ mk hs st).foldl pushZ l) (l.map stepT) = (ss.foldl (fun l s => pushAll l (partS (tree a b c) g s)) l).map stepT
  | [], _, _, _ => rfl
  | s :: ss, l, hss, hl => by
    have hs' := hss s (List.mem_cons_self ..)
    have e := pushes_eq (partS (tree a b c) g s) l hl (part_all ha hb hc hg s)
    rw [List.map_cons, List.foldl_cons, List.foldl_cons, part_eq ha hb hc hm hg h hs', e.1]
    exact walks_eq ha hb hc hm hg h ss _ (fun t ht => hss t (List.mem_cons_of_mem _ ht)) e.2
theorem k_fit (ha : a < 2) (hb : b < 3) (hc : c < 4) (hm : mk ∈ MARKS) (hf : ∀ k, f k < 5) (hg : ∀ k, g k < 5) : KFit (CHt a b c) (parT a b c) f g mk where
  out hs h k hk h0 := by
    have W := way_facts ha hb hc (hf k) (hf (parT a b c k)) hm
    have V := way_facts ha hb hc (hg (f k)) (hg (f (parT a b c k))) hm
    have hall := way_all ha hb hc (hf k) (hf (parT a b c k))
    have e1 := wayG_eq ha hb hc hm hf k
    have e2 : wayG (CHt a b c) (parT a b c) (fun k => g (f k)) mk k = textT (wayN (tree a b c) (g (f k)) (g (f (parT a b c k)))) mk := wayG_eq ha hb hc hm (f := fun k => g (f k)) (fun k => hg _) k
    rw [e1, e2]
    have hw : walkL mk hs (stepsZ (textT (wayN (tree a b c) (f k) (f (parT a b c k))) mk) mk) = (wayN (tree a b c) (g (f k)) (g (f (parT a b c k)))).map stepT := by
      rw [W.steps]
      unfold walkL
      have := walks_eq ha hb hc hm hg h _ [] hall (fun s hs => nomatch hs)
      rw [List.map_nil] at this
      rw [this, walked_steps ha hb hc (fun k _ => hg k) (hf k) (hf _)]
    have hlen : hs.length = 4 := by simpa [carriedZ] using congrArg List.length h
    have low : ∀ s ∈ allS, s.1 < 5 := by decide
    refine ⟨⟨W.len, ?_, ?_, ?_, key_len ?_, by omega, ?_⟩, ?_⟩
    · rw [W.steps, List.length_map]; exact W.num
    · intro st hst
      rw [W.steps] at hst
      obtain ⟨s, hs', rfl⟩ := List.mem_map.mp hst
      have hsa := hall s hs'
      have G := getS_eq h hsa
      have Y := way_facts ha hb hc (hg s.1) (hg (parT a b c s.1)) hm
      rw [G.2, f_name s hsa, wayG_eq ha hb hc hm hg]
      refine ⟨f_ok _ (low s hsa), G.1, Y.len, ?_, ?_⟩
      · rw [Y.steps, List.length_map]; exact Y.num
      · intro z hz
        rw [Y.steps] at hz
        obtain ⟨q, hq, rfl⟩ := List.mem_map.mp hz
        exact (f_len q (way_all ha hb hc (hg _) (hg _) q hq)).1
    · intro st hst o ho
      rw [W.steps] at hst
      obtain ⟨s, hs', rfl⟩ := List.mem_map.mp hst
      rw [part_eq ha hb hc hm hg h (hall s hs')] at ho
      obtain ⟨q, hq, rfl⟩ := List.mem_map.mp ho
      have hqa := part_all ha hb hc hg s q hq
      have := f_len q hqa
      refine ⟨this.1, this.2.1, this.2.2, ?_⟩
      rw [f_back q hqa]
      exact (f_len _ (f_flip q hqa)).2.2
    · have := congrArg (List.map (·.1)) h
      rw [List.map_map] at this
      exact this
    · rw [hw, List.map_map]; exact V.join
    · unfold walkedZ
      rw [hw, List.map_map]; rfl
theorem mark_facts : ∀ mk ∈ MARKS, mk.length ≤ 100 ∧ (mk.length == 0) = false ∧ okText mk := by decide +kernel
end P5
end SP5
section SN42
set_option maxHeartbeats 8000000
theorem cl_eq : ∀ a < 2, ∀ b < 3, ∀ c < 4, ∀ i < 5, CHt a b c i = (climb (tree a b c) i i).map nameK := by decide +kernel
theorem cl_ok : ∀ a < 2, ∀ b < 3, ∀ c < 4, ∀ i < 5, StrOks (CHt a b c i) := by decide +kernel
def of3 {α : Type} (x y z : α) : Nat → α
  | 0 => x
  | 1 => y
  | _ => z
theorem cells_ne {h₀ h : Heap} {L : Addr} {rest : Led} {o1 o2 o3 o4 o5 o6 o7 o8 o9 : Obj} {v1 v2 v3 v4 v5 v6 v7 v8 v9 : Option Value} (N : News h₀ L h (cellsL L o1 o2 o3 o4 o5 o6 o7 o8 o9 ++ rest))
    (e1 : o1.data = .cell v1) (e2 : o2.data = .cell v2) (e3 : o3.data = .cell v3) (e4 : o4.data = .cell v4) (e5 : o5.data = .cell v5) (e6 : o6.data = .cell v6) (e7 : o7.data = .cell v7) (e8 : o8.data = .cell v8) (e9 : o9.data = .cell v9)
    {X : Addr × Obj} (hX : X ∈ rest) (hd : ∀ v, X.2.data ≠ .cell v) : ∀ p ∈ cellsL L o1 o2 o3 o4 o5 o6 o7 o8 o9, p.1 ≠ X.1 := by
  have z : ∀ p ∈ cellsL L o1 o2 o3 o4 o5 o6 o7 o8 o9, ∃ v, p.2.data = .cell v := all_c ⟨_, e1⟩ (all_c ⟨_, e2⟩ (all_c ⟨_, e3⟩ (all_c ⟨_, e4⟩ (all_c ⟨_, e5⟩ (all_c ⟨_, e6⟩ (all_c ⟨_, e7⟩ (all_c ⟨_, e8⟩ (all_c ⟨_, e9⟩ all_n))))))))
  intro p hp
  obtain ⟨v, hv⟩ := z p hp
  exact (ne_cell N (List.mem_append_left _ hp) hv (List.mem_append_right _ hX) hd).symm
theorem rev9 {A : Led} {p1 p2 p3 p4 p5 p6 p7 p8 p9 q : Addr × Obj} : ∀ p ∈ [p1, p2, p3, p4, p5, p6, p7, p8, p9] ++ [q], p ∈ [p9, p8, p7, p6, p5, p4, p3, p2, p1, q] := by
  intro p hp; (revert hp; revert p; walk_at "SUB")
theorem three_of {α β : Type} {f : α → β} {g : Nat → β} {xs : List α} (h : xs.map f = (List.range 3).map g) : ∃ x0 x1 x2, xs = [x0, x1, x2] ∧ f x0 = g 0 ∧ f x1 = g 1 ∧ f x2 = g 2 := by
  have hl : xs.length = 3 := by simpa using congrArg List.length h
  match xs, hl, h with
  | [x0, x1, x2], _, h =>
    have h' : [f x0, f x1, f x2] = [g 0, g 1, g 2] := h
    simp only [List.cons.injEq, and_true] at h'
    exact ⟨x0, x1, x2, rfl, h'.1, h'.2.1, h'.2.2⟩
theorem law_body {w : World} {mean : ExcName → Option Value} {mg mb : Str → Option Value} {h₀ : Heap} {L a ls : Addr} {cd : Value} {m : Str → Option Value} {s : Shared} {Q : Flow → Shared → Prop} {E : Value → Shared → Prop} {vs : List Value} {ns : List Int} {o1 o2 o3 o4 o5 o6 o7 o8 o9 : Obj}
    (B : Below callerA h₀ [] h₀) (F : Fr h₀ L s.heap m) (hm : m (Str.ofString "script") = some (.ref ls)) (X : (hd.heap_1 w.params).In h₀)
    (N : News h₀ L s.heap [(L + 1 + 1 + 1 + 1 + 1 + 1 + 1 + 1 + 1, o9), (L + 1 + 1 + 1 + 1 + 1 + 1 + 1 + 1, o8), (L + 1 + 1 + 1 + 1 + 1 + 1 + 1, o7), (L + 1 + 1 + 1 + 1 + 1 + 1, o6), (L + 1 + 1 + 1 + 1 + 1, o5), (L + 1 + 1 + 1 + 1, o4), (L + 1 + 1 + 1, o3), (L + 1 + 1, o2), (L + 1, o1), (206, tabObj #[])])
    (c1 : o1.data = .cell none) (c2 : o2.data = .cell none) (c3 : o3.data = .cell none) (c4 : o4.data = .cell none) (c5 : o5.data = .cell none) (c6 : o6.data = .cell none) (c7 : o7.data = .cell none) (c8 : o8.data = .cell none) (c9 : o9.data = .cell none)
    (T : Top topProg looseG mean mg mb h₀) (hcode : CodeHd h₀ 210 206) (h206 : 206 < L) (hl : h₀.IsList ls vs.toArray) (hi : IntsAre vs ns) (hn : ns.length ≤ 63)
    (hQ : ∀ s' tab m' nx, Same s s' → Fr h₀ L s'.heap m' → News h₀ L s'.heap ((206, tabObj tab) :: nx) → Q (.ret (.bool true)) s')
    (hE : PassesOwn (model Challenge.pw_wv0033_01 w) (lawA L a cd) (lawEnv L a cd) E) :
    wpAny (model Challenge.pw_wv0033_01 w) (callerA.deeper (envOfC (Str.ofString "law") lawDef.2 L a cd)) (execs lawDef.1 (envOfC (Str.ofString "law") lawDef.2 L a cd)) Q E s := by
  revert w mean mg mb h₀ L a ls cd m s Q E vs ns o1 o2 o3 o4 o5 o6 o7 o8 o9
  intro PK w mean mg mb h₀ L a ls cd m s Q E vs ns o1 o2 o3 o4 o5 o6 o7 o8 o9
  intro B F hm X N c1 c2 c3 c4 c5 c6 c7 c8 c9 T hcode h206 hl hi hn hQ hE
  have N0 : News h₀ L s.heap (cellsL L o1 o2 o3 o4 o5 o6 o7 o8 o9 ++ [(206, tabObj #[])]) := N.perm (rev9 (A := []))
  change lawRun w L a cd 0 Q E s
  refine law_seg 0 4 _ (fun s1 h1 => ?_) (segA B F hm X N0 c1 c2 T h206 hl hi hn)
  obtain ⟨m1, p1, p2, nm, ks, mk, tm, O1, ln, lp, lc, z0, z1, z2, t0, t1, t2, ta, tb, tc, S1, F1, N1, no1, n206, e1, e2, hmc, hmm, hmk, hns, hnm, hps, hpm, ha, hb, hc, hlc, b1, b2⟩ := h1.out
  clear h1 F N N0
  refine law_seg 4 3 _ (fun s2 h2 => ?_) (segB B F1 X N1 no1 n206 T hcode h206 e1 e2 c3 c4 hns hnm hps hpm ha hb hc)
  obtain ⟨treeV, p3, p4, S, C, fc, tab, O2, S2, F2, N2, no2, s12, h2t, e3, e4, hS, hC⟩ := h2.out
  clear h2 F1 N1 no1 n206
  replace hns := hns.mono s12
  replace hps := hps.mono s12
  replace hlc := hlc.mono s12
  replace hmm : (fun y => if y = Str.ofString "tree" then some treeV else m1 y) (Str.ofString "mark") = _ := (if_neg (by decide)).trans hmm
  replace hmc : (fun y => if y = Str.ofString "tree" then some treeV else m1 y) (Str.ofString "cells") = _ := (if_neg (by decide)).trans hmc
  generalize (fun y => if y = Str.ofString "tree" then some treeV else m1 y) = m2 at F2 hmm hmc
  replace S2 := S1.trans S2
  clear S1 s12 O1
  refine law_seg 7 1 _ (fun s3 h3 => ?_) (segC B F2 X N2 T e1 e2 e4 hns hnm hps hpm ha hb hc hC (cl_eq ta ha tb hb tc hc) (cl_ok ta ha tb hb tc hc))
  obtain ⟨S3, F3, N3⟩ := h3
  replace S3 := S2.trans S3
  clear S2 F2 N2
  refine law_seg 8 1 _ (fun s4 h4 => ?_) (segD B F3 X N3 T e1 e3 hns hnm hS)
  obtain ⟨S4, F4, N4⟩ := h4
  replace S4 := S3.trans S4
  clear S3 F3 N3
  refine law_seg 9 1 _ (fun s5 h5 => ?_) (segE B F4 X N4 no2 T c5 hmc hlc b1 b2)
  obtain ⟨p5, le, n5, r1, r2, k1, k2, n1, n2, S5, F5, N5, hle, e5, hk1, hk2⟩ := h5.out
  replace S5 := S4.trans S5
  clear S4 F4 N4 h5 hmc hlc
  have hf := digN_lt z1
  have hg := digN_lt z2
  generalize digN z1 = f at hk1 hf
  generalize digN z2 = g at hk2 hg
  have hr1 : Sure ((r1, W.listOf (intsOf k1) n1) :: (r2, W.listOf (intsOf k2) n2) :: O2) fun h => h.IsList r1 (intsOf k1) := fun h H => ⟨_, H _ (List.mem_cons_self ..), rfl, _, rfl⟩
  have hr2 : Sure ((r1, W.listOf (intsOf k1) n1) :: (r2, W.listOf (intsOf k2) n2) :: O2) fun h => h.IsList r2 (intsOf k2) := fun h H => ⟨_, H _ (List.mem_cons_of_mem _ (List.mem_cons_self ..)), rfl, _, rfl⟩
  have no5 : NoCell ((r1, W.listOf (intsOf k1) n1) :: (r2, W.listOf (intsOf k2) n2) :: O2) := NoCell.cons (fun v e => by cases e) (NoCell.cons (fun v e => by cases e) no2)
  have s25 : ∀ p ∈ O2, p ∈ (r1, W.listOf (intsOf k1) n1) :: (r2, W.listOf (intsOf k2) n2) :: O2 := fun p hp => List.mem_cons_of_mem _ (List.mem_cons_of_mem _ hp)
  generalize (r1, W.listOf (intsOf k1) n1) :: (r2, W.listOf (intsOf k2) n2) :: O2 = O5 at N5 hle hr1 hr2 no5 s25
  replace hns := hns.mono s25
  replace hps := hps.mono s25
  replace hS := hS.mono s25
  replace hC := hC.mono s25
  replace h2t := s25 _ h2t
  clear s25 no2 O2
  refine law_seg 10 1 _ (fun s6 h6 => ?_) (segF B F5 X N5 no5 hle T e1 e5 c7 hns hnm hr1 hk1 hr2 hk2 hf hg)
  obtain ⟨p7, ll, d1, d2, O6, S6, F6, N6, no6, hle6, s56, e7, hll, hd1, hd2⟩ := h6.out
  replace S6 := S5.trans S6
  replace hns := hns.mono s56
  replace hps := hps.mono s56
  replace hS := hS.mono s56
  replace hC := hC.mono s56
  replace h2t := s56 _ h2t
  replace hr1 := hr1.mono s56
  replace hr2 := hr2.mono s56
  clear s56 no5 h6 S5 F5 N5 hle
  refine law_seg 11 1 _ (fun s7 h7 => ?_) (segG B F6 X N6 no6 hle6 T e1 e3 e7 hns hnm hS hll hd1 hd2)
  obtain ⟨li, n7, i1, i2, q1, q2, O7, S7, F7, N7, no7, hle7, hli7, hel, s67, hi1, hq1, hi2, hq2⟩ := h7.out
  replace S7 := S6.trans S7
  replace hns := hns.mono s67
  replace hps := hps.mono s67
  replace hS := hS.mono s67
  replace hC := hC.mono s67
  replace h2t := s67 _ h2t
  replace hr1 := hr1.mono s67
  replace hr2 := hr2.mono s67
  replace hll := hll.mono s67
  replace hd1 := hd1.mono s67
  replace hd2 := hd2.mono s67
  clear s67 no6 h7 S6 F6 N6 hle6
  replace hmm : (fun y => if y = Str.ofString "images" then some (.ref li) else m2 y) (Str.ofString "mark") = _ := (if_neg (by decide)).trans hmm
  have hmi : (fun y => if y = Str.ofString "images" then some (.ref li) else m2 y) (Str.ofString "images") = some (.ref li) := if_pos rfl
  generalize (fun y => if y = Str.ofString "images" then some (Value.ref li) else m2 y) = m7 at F7 hmm hmi
  refine law_seg 12 1 _ (fun s8 h8 => ?_) (segH B F7 X N7 no7 hle7 hli7 (fun v e => by cases e) T e1 e3 c6 e7 hns hnm hS hll hd1 hd2 hmi hi1 hq1 hi2 hq2 hE)
  obtain ⟨m8, p6, v6, S8, F8, N8, e6, hm8⟩ := h8.out
  replace S8 := S7.trans S8
  replace hmm := (hm8 (Str.ofString "mark") (by decide) (by decide)).trans hmm
  replace hmi := (hm8 (Str.ofString "images") (by decide) (by decide)).trans hmi
  clear hm8 h8 S7 F7 N7
  refine law_seg 13 1 _ (fun s9 h9 => ?_) (segI1 B F8 X N8 no7 hle7 hli7 hel T e5 hr1 hk1 hr2 hk2 hf hg (cells_ne N8 e1 e2 e3 e4 e5 e6 e7 c8 c9 (List.mem_cons_self ..) (fun v e => by cases e)))
  obtain ⟨r3, n9, k3, O9, S9, F9, N9, no9, hle9, hli9, s79, hr3, hk3⟩ := h9.out
  replace S9 := S8.trans S9
  replace hns := hns.mono s79
  replace hps := hps.mono s79
  replace hS := hS.mono s79
  replace hC := hC.mono s79
  replace h2t := s79 _ h2t
  replace hr1 := hr1.mono s79
  replace hr2 := hr2.mono s79
  replace hll := hll.mono s79
  replace hd1 := hd1.mono s79
  replace hd2 := hd2.mono s79
  replace hi1 := hi1.mono s79
  replace hi2 := hi2.mono s79
  clear s79 no7 h9 S8 F8 N8
  refine law_seg 14 1 _ (fun sA hA => ?_) (segI2 B F9 X N9 no9 hle9 hli9 hel T e1 e3 e7 hns hnm hS hll hd1 hd2 hmi hf (cells_ne N9 e1 e2 e3 e4 e5 e6 e7 c8 c9 (X := (li, _)) (List.mem_cons_of_mem _ (List.mem_cons_self ..)) (fun v e => by cases e)))
  obtain ⟨i3, nA, q3, OA, SA, FA, NA, noA, hleA, hliA, s9A, hi3, hq3⟩ := hA.out
  replace SA := S9.trans SA
  replace hns := hns.mono s9A
  replace hps := hps.mono s9A
  replace hC := hC.mono s9A
  replace h2t := s9A _ h2t
  replace hr1 := hr1.mono s9A
  replace hr2 := hr2.mono s9A
  replace hr3 := hr3.mono s9A
  replace hi1 := hi1.mono s9A
  replace hi2 := hi2.mono s9A
  clear s9A no9 hA S9 F9 N9 hS hll hd1 hd2
  obtain ⟨mk1, mk2, mk3⟩ := mark_facts mk hmk
  have hgf : ∀ k, g (f k) < 5 := fun k => hg _
  refine law_seg 15 2 _ (fun sB hB => ?_) (segJ (rA := of3 r1 r2 r3) (sA := of3 i1 i2 i3) (qA := of3 q1 q2 q3) (kA := of3 k1 k2 k3) (FF := of3 f g (fun k => g (f k))) B FA X NA noA T e1 e2 e4 e5 e6 c8 c9 hmi hmm hns hnm hps hpm hC
    (fun i hi => by rcases (by omega : i = 0 ∨ i = 1 ∨ i = 2) with rfl | rfl | rfl <;> assumption)
    (fun i hi => by rcases (by omega : i = 0 ∨ i = 1 ∨ i = 2) with rfl | rfl | rfl <;> assumption)
    (fun i hi => by rcases (by omega : i = 0 ∨ i = 1 ∨ i = 2) with rfl | rfl | rfl <;> assumption)
    (fun i hi => by rcases (by omega : i = 0 ∨ i = 1 ∨ i = 2) with rfl | rfl | rfl <;> assumption)
    (fun i hi => j_fit ha hb hc hmk (by rcases (by omega : i = 0 ∨ i = 1 ∨ i = 2) with rfl | rfl | rfl <;> assumption))
    mk1 mk2 mk3 hE)
  obtain ⟨mB, p6', p8, p9, lt, nT, xs, SB, FB, NB, hmt, hmB, hxs, _, _, _⟩ := hB.out
  obtain ⟨x0, x1, x2, rfl, hx0, hx1, hx2⟩ := three_of hxs
  replace SB := SA.trans SB
  have hbase : ∀ p ∈ OA, p ∈ (le, W.listOf #[.ref (of3 r1 r2 r3 0), .ref (of3 r1 r2 r3 1), .ref (of3 r1 r2 r3 2)] n9) :: (li, W.listOf #[.ref (of3 i1 i2 i3 0), .ref (of3 i1 i2 i3 1), .ref (of3 i1 i2 i3 2)] nA) :: OA := fun p hp => List.mem_cons_of_mem _ (List.mem_cons_of_mem _ hp)
  generalize (le, W.listOf #[.ref (of3 r1 r2 r3 0), .ref (of3 r1 r2 r3 1), .ref (of3 r1 r2 r3 2)] n9) :: (li, W.listOf #[.ref (of3 i1 i2 i3 0), .ref (of3 i1 i2 i3 1), .ref (of3 i1 i2 i3 2)] nA) :: OA = base at NB hbase
  have NC : News h₀ L sB.heap (cellsL L p1 p2 p3 p4 p5 p6' p7 p8 p9 ++ ((lt, W.listOf #[.ref x0.T, .ref x1.T, .ref x2.T] nT) :: (tbLed w x0 ++ (tbLed w x1 ++ (tbLed w x2 ++ base))))) := NB.perm fun p hp => by
    have e : [x0, x1, x2].flatMap (tbLed w) ++ base = tbLed w x0 ++ (tbLed w x1 ++ (tbLed w x2 ++ base)) := by
      simp only [List.flatMap_cons, List.flatMap_nil, List.append_assoc, List.append_nil, List.nil_append]
    rw [e]; exact hp
  refine segK (f := f) (g := g) B FB X NC T e1 hmt (hmB.trans hmm) (hns.mono hbase) hnm mk1 mk2 hx0 hx1 hx2 (k_fit ha hb hc hmk hf hg) hE fun s' m' S' F' N' => ?_
  exact hQ s' tab m' base (SB.trans S') F' (N'.perm fun p hp => by
    rcases List.mem_cons.mp hp with rfl | hp
    · exact hbase _ h2t
    · exact hp)
end SN42
section SN43
set_option maxHeartbeats 8000000
theorem kc_nine {cm : Str → Option Value} {n₁ n₂ n₃ n₄ n₅ n₆ n₇ n₈ n₉ : Str} {c₁ c₂ c₃ c₄ c₅ c₆ c₇ c₈ c₉ : Addr} {cells : List (Addr × Obj)} (x : CellsAre cm [(n₁, c₁), (n₂, c₂), (n₃, c₃), (n₄, c₄), (n₅, c₅), (n₆, c₆), (n₇, c₇), (n₈, c₈), (n₉, c₉)] cells) :
    ∃ o₁ o₂ o₃ o₄ o₅ o₆ o₇ o₈ o₉, cells = [(c₁, o₁), (c₂, o₂), (c₃, o₃), (c₄, o₄), (c₅, o₅), (c₆, o₆), (c₇, o₇), (c₈, o₈), (c₉, o₉)] ∧ o₁.data = .cell (cm n₁) ∧ o₂.data = .cell (cm n₂) ∧ o₃.data = .cell (cm n₃) ∧ o₄.data = .cell (cm n₄) ∧ o₅.data = .cell (cm n₅) ∧ o₆.data = .cell (cm n₆) ∧ o₇.data = .cell (cm n₇) ∧ o₈.data = .cell (cm n₈) ∧ o₉.data = .cell (cm n₉) := by
  cases x with | cons h r => obtain ⟨o₂, o₃, o₄, o₅, o₆, o₇, o₈, o₉, rfl, h₂, h₃, h₄, h₅, h₆, h₇, h₈, h₉⟩ := kc_eight r; exact ⟨_, o₂, o₃, o₄, o₅, o₆, o₇, o₈, o₉, rfl, h, h₂, h₃, h₄, h₅, h₆, h₇, h₈, h₉⟩
local macro_rules | `(tactic| cells_open $x:ident) => `(tactic| (obtain ⟨_, _, _, _, _, _, _, _, _, he, _, _, _, _, _, _, _, _, _⟩ := Mine.kc_nine $x; subst he))
local macro_rules | `(tactic| walk_at "eval ListComp") => `(tactic| (k_here; refine Stop.out ?_))
local macro_rules | `(tactic| walk_at "call ref") => `(tactic| (k_here; (fail_if_success (with_reducible show wpAny _ _ (call (Value.ref 211) _) _ _ _)); refine Stop.out ?_))
structure EndTrue (s₁ : Shared) (tabs : List (Addr × Addr)) (r : Result) (s' : Shared) : Prop where
  val : r = .ok (.ret (.bool true))
  keep : ∀ b o, (ghostOf s₁.heap tabs).get? b = some o → s'.heap.get? b = some o
  os : s'.os = s₁.os
  bare : AllBare s'.gens
  grown : GrownAll tabs s'.heap
theorem knG_post {M : Model} {A : Around} {cd : Code} {s s₁ : Shared} {cw : ClaimW} {cl : Str → Option Addr} {mean : ExcName → Option Value} {args : List WData} {tabs : List (Addr × Addr)} (hT : TabsAt tabs s₁.heap) (hr : ∀ a x, cw.raises a x = false) (hp : cw.post args (.bool true) args = true)
    (h : codeAny M A cd (EndTrue s₁ tabs) s) : codeAny M A cd (GoodWG cw cl mean args s₁) s :=
  codeAny_mono h fun r s' ⟨hv, hk, hos, hg, hgr⟩ => by
    subst hv
    refine ⟨.inl ⟨_, _, [], rfl, fun x => hr _ _, ReadsW.bool true, hp, fun _ => ⟨List.nodup_nil, fun _ hm => nomatch hm⟩⟩, ⟨fun b o e => ?_, fun b o e => ?_⟩, hos, hg⟩
    · by_cases hb : b ∈ tabs.map (·.2)
      · obtain ⟨q, hq, rfl⟩ := List.mem_map.mp hb
        have e2 := (hT q hq).2
        rw [e] at e2
        cases e2
        obtain ⟨ps, hP⟩ := hgr.get q hq
        exact .inr (.inl ⟨((hT q hq).1.tab (hT q hq).2).isCodeTable, rfl, #[], ps, rfl, by rw [Array.empty_append]; exact hP⟩)
      · exact .inl (hk b o (ghost_ne e hb))
    · by_cases hb : b ∈ tabs.map (·.2)
      · obtain ⟨q, hq, rfl⟩ := List.mem_map.mp hb
        obtain ⟨ps, hP⟩ := hgr.get q hq
        exact ⟨_, hP⟩
      · exact ⟨o, hk b o (ghost_ne e hb)⟩
local macro_rules | `(tactic| kn_posts) => `(tactic| refine knG_post (by assumption) (fun _ _ => rfl) (by first | rfl | wrow_post) ?_)
theorem law_top : PySem.Challenge.rw_wv0033_01.Holds := by
  apply hd
  k_go0
  refine law_body (by assumption) (by assumption) rfl (by assumption) (by assumption) ?_ ?_ ?_ ?_ ?_ ?_ ?_ ?_ ?_ (by assumption) (by assumption) (by assumption) (by assumption) (by assumption) (by omega) ?_ ?_
  all_goals try assumption
  · intro s' tab m' nx hs F N
    refine ⟨rfl, F.keep, hs.os, hs.bare ?_, ⟨tab, (N _ (List.mem_cons_self ..)).1⟩, trivial⟩
    intro y hy
    rename Shared.gens _ = #[] => hg9
    replace hy : y ∈ Shared.gens _ := hy
    rw [hg9] at hy
    exact absurd hy (by walk_at "INS")
  · passes_own
end SN43
end U
end ALL
end Mine
theorem PySem.Challenge.cw_wv0033_01_holds : PySem.Challenge.rw_wv0033_01.Holds :=
  Mine.law_top
