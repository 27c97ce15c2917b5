import PyProof.Rows.All
import Wide.All
import OpenK.AllK
import Wide.FinOn
import Lean
import PySem.Challenge.RW_wj0057_01
open PySem PySem.W PyProof.Rows PySem.Spec PySem.Calls
set_option Elab.async false
set_option maxRecDepth 100000
set_option maxHeartbeats 8000000
set_option compiler.extract_closed false
-- Hd
namespace Mine
noncomputable def vq : Program := view PySem.Challenge.pw_wj0057_01 [0, 1, 3, 4, 5, 6, 7, 9, 11, 13, 14, 15, 17, 19, 20, 21, 22, 23, 24, 25, 26, 27, 28, 29, 30, 31, 32]
local macro_rules | `(tactic| o_law) => `(tactic| refine holds_law (by decide +kernel) fun said => ?_)
local macro_rules | `(tactic| o_head $H) => `(tactic| (
  refine holds_open (q := vq) (loose := [Str.ofString "tspecials", Str.ofString "_name_disallowed_re", Str.ofString "_value_disallowed_re", Str.ofString "_formatparam"]) (Xt := fun s => xlAt vq [] s && recOk (RowW.records (OpenRow.toRowW (OpenLaw.row PySem.Challenge.rw_wj0057_01))) s) (XP := XL vq []) (Yf := Hook.obs $H) (Ya := Hook.val $H) (YP := Hook.says $H) (N := 4040) ?hl (Hook.of $H) (Hook.keeps $H) (fun s e => xl_of s (Bool.and_eq_true_iff.mp e).1) XL.keeps (by rfl) (by rfl) (by rfl) (fun s e => recFacts_of (Bool.and_eq_true_iff.mp e).2) (by rfl) (by assumption) (by decide +kernel) ⟨rfl, rfl, rfl, rfl, rfl, by decide +kernel⟩ ?hw ?hc
  case hl =>
    intro w
    unfold openEnds fencedOpening topFrom
    rw [PySem.W.Fast.te10274390034422433532, PySem.W.Fast.te14289696077712309145, PySem.W.Fast.te1435165496053646825, PySem.W.Fast.te14082659384304107361, PySem.W.Fast.te14364793385576792824, PySem.W.Fast.te4187177175401517315, PySem.W.Fast.te5923862056798008813]
    kernel_rfl))
open_top hd for PySem.Challenge.rw_wj0057_01
end Mine
-- Eps
namespace Mine
/-- a closed term for a letter: what holds of it holds of all. The proof's terms stay closed, and so are shared whatever their depth -/
noncomputable def epsl {α : Type} (ne : Nonempty α) (P : α → Prop) : α := @Classical.epsilon α ne fun a => ¬ P a
noncomputable def AtE {α : Type} (P : α → Prop) (a : α) : Prop := P a
theorem AtE.mk {α : Type} {P : α → Prop} {a : α} (h : P a) : AtE P a := h
theorem eps_all {α : Type} {P : α → Prop} (ne : Nonempty α) (h : AtE P (epsl ne P)) : ∀ a, P a := fun a =>
  Classical.byContradiction fun hn => @Classical.epsilon_spec α (fun a => ¬ P a) ⟨a, hn⟩ h
theorem ne_heap : Nonempty Heap := ⟨default⟩
theorem ne_nat : Nonempty Nat := ⟨0⟩
theorem ne_value : Nonempty Value := ⟨default⟩
theorem ne_obj : Nonempty Obj := ⟨default⟩
theorem ne_int : Nonempty Int := ⟨0⟩
theorem ne_str : Nonempty Str := ⟨default⟩
theorem ne_led : Nonempty (List (Addr × Obj)) := ⟨[]⟩
theorem ne_vals : Nonempty (List Value) := ⟨[]⟩
theorem ne_map : Nonempty (Str → Option Value) := ⟨fun _ => none⟩
theorem ne_shared : Nonempty Shared := ⟨{}⟩
theorem ne_around : Nonempty Around := ⟨{}⟩
theorem ne_world : Nonempty World := ⟨PySem.W.aWorld 0⟩
theorem ne_post {α : Type} : Nonempty (α → Shared → Prop) := ⟨fun _ _ => True⟩
section
variable {α0 α1 : Type}
theorem ne2 (n0 : Nonempty α0) (n1 : Nonempty α1) : Nonempty (α0 × α1) := n0.elim fun a0 => n1.elim fun a1 => ⟨a0, a1⟩
noncomputable def e2 (ne : Nonempty (α0 × α1)) (P : α0 → α1 → Prop) : α0 × α1 := @Classical.epsilon _ ne fun c => ¬ P c.1 c.2
noncomputable def At2 (P : α0 → α1 → Prop) (a0 : α0) (a1 : α1) : Prop := P a0 a1
theorem At2.mk {P : α0 → α1 → Prop} {a0 : α0} {a1 : α1} (h : P a0 a1) : At2 P a0 a1 := h
theorem eps2 {P : α0 → α1 → Prop} (ne : Nonempty (α0 × α1)) (h : At2 P (e2 ne P).1 (e2 ne P).2) : ∀ a0 a1, P a0 a1 := fun a0 a1 =>
  Classical.byContradiction fun hn => @Classical.epsilon_spec (α0 × α1) (fun c => ¬ P c.1 c.2) ⟨(a0, a1), hn⟩ h
end
section
variable {α0 α1 α2 : Type}
theorem ne3 (n0 : Nonempty α0) (n1 : Nonempty α1) (n2 : Nonempty α2) : Nonempty (α0 × α1 × α2) := n0.elim fun a0 => n1.elim fun a1 => n2.elim fun a2 => ⟨a0, a1, a2⟩
noncomputable def e3 (ne : Nonempty (α0 × α1 × α2)) (P : α0 → α1 → α2 → Prop) : α0 × α1 × α2 := @Classical.epsilon _ ne fun c => ¬ P c.1 c.2.1 c.2.2
noncomputable def At3 (P : α0 → α1 → α2 → Prop) (a0 : α0) (a1 : α1) (a2 : α2) : Prop := P a0 a1 a2
theorem At3.mk {P : α0 → α1 → α2 → Prop} {a0 : α0} {a1 : α1} {a2 : α2} (h : P a0 a1 a2) : At3 P a0 a1 a2 := h
theorem eps3 {P : α0 → α1 → α2 → Prop} (ne : Nonempty (α0 × α1 × α2)) (h : At3 P (e3 ne P).1 (e3 ne P).2.1 (e3 ne P).2.2) : ∀ a0 a1 a2, P a0 a1 a2 := fun a0 a1 a2 =>
  Classical.byContradiction fun hn => @Classical.epsilon_spec (α0 × α1 × α2) (fun c => ¬ P c.1 c.2.1 c.2.2) ⟨(a0, a1, a2), hn⟩ h
end
section
variable {α0 α1 α2 α3 : Type}
theorem ne4 (n0 : Nonempty α0) (n1 : Nonempty α1) (n2 : Nonempty α2) (n3 : Nonempty α3) : Nonempty (α0 × α1 × α2 × α3) := n0.elim fun a0 => n1.elim fun a1 => n2.elim fun a2 => n3.elim fun a3 => ⟨a0, a1, a2, a3⟩
noncomputable def e4 (ne : Nonempty (α0 × α1 × α2 × α3)) (P : α0 → α1 → α2 → α3 → Prop) : α0 × α1 × α2 × α3 := @Classical.epsilon _ ne fun c => ¬ P c.1 c.2.1 c.2.2.1 c.2.2.2
noncomputable def At4 (P : α0 → α1 → α2 → α3 → Prop) (a0 : α0) (a1 : α1) (a2 : α2) (a3 : α3) : Prop := P a0 a1 a2 a3
theorem At4.mk {P : α0 → α1 → α2 → α3 → Prop} {a0 : α0} {a1 : α1} {a2 : α2} {a3 : α3} (h : P a0 a1 a2 a3) : At4 P a0 a1 a2 a3 := h
theorem eps4 {P : α0 → α1 → α2 → α3 → Prop} (ne : Nonempty (α0 × α1 × α2 × α3)) (h : At4 P (e4 ne P).1 (e4 ne P).2.1 (e4 ne P).2.2.1 (e4 ne P).2.2.2) : ∀ a0 a1 a2 a3, P a0 a1 a2 a3 := fun a0 a1 a2 a3 =>
  Classical.byContradiction fun hn => @Classical.epsilon_spec (α0 × α1 × α2 × α3) (fun c => ¬ P c.1 c.2.1 c.2.2.1 c.2.2.2) ⟨(a0, a1, a2, a3), hn⟩ h
end
section
variable {α0 α1 α2 α3 α4 α5 α6 α7 : Type}
theorem ne8 (n0 : Nonempty α0) (n1 : Nonempty α1) (n2 : Nonempty α2) (n3 : Nonempty α3) (n4 : Nonempty α4) (n5 : Nonempty α5) (n6 : Nonempty α6) (n7 : Nonempty α7) : Nonempty (α0 × α1 × α2 × α3 × α4 × α5 × α6 × α7) := n0.elim fun a0 => n1.elim fun a1 => n2.elim fun a2 => n3.elim fun a3 => n4.elim fun a4 => n5.elim fun a5 => n6.elim fun a6 => n7.elim fun a7 => ⟨a0, a1, a2, a3, a4, a5, a6, a7⟩
noncomputable def e8 (ne : Nonempty (α0 × α1 × α2 × α3 × α4 × α5 × α6 × α7)) (P : α0 → α1 → α2 → α3 → α4 → α5 → α6 → α7 → Prop) : α0 × α1 × α2 × α3 × α4 × α5 × α6 × α7 := @Classical.epsilon _ ne fun c => ¬ P c.1 c.2.1 c.2.2.1 c.2.2.2.1 c.2.2.2.2.1 c.2.2.2.2.2.1 c.2.2.2.2.2.2.1 c.2.2.2.2.2.2.2
noncomputable def At8 (P : α0 → α1 → α2 → α3 → α4 → α5 → α6 → α7 → Prop) (a0 : α0) (a1 : α1) (a2 : α2) (a3 : α3) (a4 : α4) (a5 : α5) (a6 : α6) (a7 : α7) : Prop := P a0 a1 a2 a3 a4 a5 a6 a7
theorem At8.mk {P : α0 → α1 → α2 → α3 → α4 → α5 → α6 → α7 → Prop} {a0 : α0} {a1 : α1} {a2 : α2} {a3 : α3} {a4 : α4} {a5 : α5} {a6 : α6} {a7 : α7} (h : P a0 a1 a2 a3 a4 a5 a6 a7) : At8 P a0 a1 a2 a3 a4 a5 a6 a7 := h
theorem eps8 {P : α0 → α1 → α2 → α3 → α4 → α5 → α6 → α7 → Prop} (ne : Nonempty (α0 × α1 × α2 × α3 × α4 × α5 × α6 × α7)) (h : At8 P (e8 ne P).1 (e8 ne P).2.1 (e8 ne P).2.2.1 (e8 ne P).2.2.2.1 (e8 ne P).2.2.2.2.1 (e8 ne P).2.2.2.2.2.1 (e8 ne P).2.2.2.2.2.2.1 (e8 ne P).2.2.2.2.2.2.2) : ∀ a0 a1 a2 a3 a4 a5 a6 a7, P a0 a1 a2 a3 a4 a5 a6 a7 := fun a0 a1 a2 a3 a4 a5 a6 a7 =>
  Classical.byContradiction fun hn => @Classical.epsilon_spec (α0 × α1 × α2 × α3 × α4 × α5 × α6 × α7) (fun c => ¬ P c.1 c.2.1 c.2.2.1 c.2.2.2.1 c.2.2.2.2.1 c.2.2.2.2.2.1 c.2.2.2.2.2.2.1 c.2.2.2.2.2.2.2) ⟨(a0, a1, a2, a3, a4, a5, a6, a7), hn⟩ h
end
section
variable {α0 α1 α2 α3 α4 α5 α6 α7 α8 α9 α10 α11 α12 α13 α14 α15 : Type}
theorem ne16 (n0 : Nonempty α0) (n1 : Nonempty α1) (n2 : Nonempty α2) (n3 : Nonempty α3) (n4 : Nonempty α4) (n5 : Nonempty α5) (n6 : Nonempty α6) (n7 : Nonempty α7) (n8 : Nonempty α8) (n9 : Nonempty α9) (n10 : Nonempty α10) (n11 : Nonempty α11) (n12 : Nonempty α12) (n13 : Nonempty α13) (n14 : Nonempty α14) (n15 : Nonempty α15) : Nonempty (α0 × α1 × α2 × α3 × α4 × α5 × α6 × α7 × α8 × α9 × α10 × α11 × α12 × α13 × α14 × α15) := n0.elim fun a0 => n1.elim fun a1 => n2.elim fun a2 => n3.elim fun a3 => n4.elim fun a4 => n5.elim fun a5 => n6.elim fun a6 => n7.elim fun a7 => n8.elim fun a8 => n9.elim fun a9 => n10.elim fun a10 => n11.elim fun a11 => n12.elim fun a12 => n13.elim fun a13 => n14.elim fun a14 => n15.elim fun a15 => ⟨a0, a1, a2, a3, a4, a5, a6, a7, a8, a9, a10, a11, a12, a13, a14, a15⟩
noncomputable def e16 (ne : Nonempty (α0 × α1 × α2 × α3 × α4 × α5 × α6 × α7 × α8 × α9 × α10 × α11 × α12 × α13 × α14 × α15)) (P : α0 → α1 → α2 → α3 → α4 → α5 → α6 → α7 → α8 → α9 → α10 → α11 → α12 → α13 → α14 → α15 → Prop) : α0 × α1 × α2 × α3 × α4 × α5 × α6 × α7 × α8 × α9 × α10 × α11 × α12 × α13 × α14 × α15 := @Classical.epsilon _ ne fun c => ¬ P c.1 c.2.1 c.2.2.1 c.2.2.2.1 c.2.2.2.2.1 c.2.2.2.2.2.1 c.2.2.2.2.2.2.1 c.2.2.2.2.2.2.2.1 c.2.2.2.2.2.2.2.2.1 c.2.2.2.2.2.2.2.2.2.1 c.2.2.2.2.2.2.2.2.2.2.1 c.2.2.2.2.2.2.2.2.2.2.2.1 c.2.2.2.2.2.2.2.2.2.2.2.2.1 c.2.2.2.2.2.2.2.2.2.2.2.2.2.1 c.2.2.2.2.2.2.2.2.2.2.2.2.2.2.1 c.2.2.2.2.2.2.2.2.2.2.2.2.2.2.2
noncomputable def At16 (P : α0 → α1 → α2 → α3 → α4 → α5 → α6 → α7 → α8 → α9 → α10 → α11 → α12 → α13 → α14 → α15 → Prop) (a0 : α0) (a1 : α1) (a2 : α2) (a3 : α3) (a4 : α4) (a5 : α5) (a6 : α6) (a7 : α7) (a8 : α8) (a9 : α9) (a10 : α10) (a11 : α11) (a12 : α12) (a13 : α13) (a14 : α14) (a15 : α15) : Prop := P a0 a1 a2 a3 a4 a5 a6 a7 a8 a9 a10 a11 a12 a13 a14 a15
theorem At16.mk {P : α0 → α1 → α2 → α3 → α4 → α5 → α6 → α7 → α8 → α9 → α10 → α11 → α12 → α13 → α14 → α15 → Prop} {a0 : α0} {a1 : α1} {a2 : α2} {a3 : α3} {a4 : α4} {a5 : α5} {a6 : α6} {a7 : α7} {a8 : α8} {a9 : α9} {a10 : α10} {a11 : α11} {a12 : α12} {a13 : α13} {a14 : α14} {a15 : α15} (h : P a0 a1 a2 a3 a4 a5 a6 a7 a8 a9 a10 a11 a12 a13 a14 a15) : At16 P a0 a1 a2 a3 a4 a5 a6 a7 a8 a9 a10 a11 a12 a13 a14 a15 := h
theorem eps16 {P : α0 → α1 → α2 → α3 → α4 → α5 → α6 → α7 → α8 → α9 → α10 → α11 → α12 → α13 → α14 → α15 → Prop} (ne : Nonempty (α0 × α1 × α2 × α3 × α4 × α5 × α6 × α7 × α8 × α9 × α10 × α11 × α12 × α13 × α14 × α15)) (h : At16 P (e16 ne P).1 (e16 ne P).2.1 (e16 ne P).2.2.1 (e16 ne P).2.2.2.1 (e16 ne P).2.2.2.2.1 (e16 ne P).2.2.2.2.2.1 (e16 ne P).2.2.2.2.2.2.1 (e16 ne P).2.2.2.2.2.2.2.1 (e16 ne P).2.2.2.2.2.2.2.2.1 (e16 ne P).2.2.2.2.2.2.2.2.2.1 (e16 ne P).2.2.2.2.2.2.2.2.2.2.1 (e16 ne P).2.2.2.2.2.2.2.2.2.2.2.1 (e16 ne P).2.2.2.2.2.2.2.2.2.2.2.2.1 (e16 ne P).2.2.2.2.2.2.2.2.2.2.2.2.2.1 (e16 ne P).2.2.2.2.2.2.2.2.2.2.2.2.2.2.1 (e16 ne P).2.2.2.2.2.2.2.2.2.2.2.2.2.2.2) : ∀ a0 a1 a2 a3 a4 a5 a6 a7 a8 a9 a10 a11 a12 a13 a14 a15, P a0 a1 a2 a3 a4 a5 a6 a7 a8 a9 a10 a11 a12 a13 a14 a15 := fun a0 a1 a2 a3 a4 a5 a6 a7 a8 a9 a10 a11 a12 a13 a14 a15 =>
  Classical.byContradiction fun hn => @Classical.epsilon_spec (α0 × α1 × α2 × α3 × α4 × α5 × α6 × α7 × α8 × α9 × α10 × α11 × α12 × α13 × α14 × α15) (fun c => ¬ P c.1 c.2.1 c.2.2.1 c.2.2.2.1 c.2.2.2.2.1 c.2.2.2.2.2.1 c.2.2.2.2.2.2.1 c.2.2.2.2.2.2.2.1 c.2.2.2.2.2.2.2.2.1 c.2.2.2.2.2.2.2.2.2.1 c.2.2.2.2.2.2.2.2.2.2.1 c.2.2.2.2.2.2.2.2.2.2.2.1 c.2.2.2.2.2.2.2.2.2.2.2.2.1 c.2.2.2.2.2.2.2.2.2.2.2.2.2.1 c.2.2.2.2.2.2.2.2.2.2.2.2.2.2.1 c.2.2.2.2.2.2.2.2.2.2.2.2.2.2.2) ⟨(a0, a1, a2, a3, a4, a5, a6, a7, a8, a9, a10, a11, a12, a13, a14, a15), hn⟩ h
end
section
variable {α0 α1 α2 α3 α4 α5 α6 α7 α8 α9 α10 α11 α12 α13 α14 α15 α16 α17 α18 α19 α20 α21 α22 : Type}
theorem ne23 (n0 : Nonempty α0) (n1 : Nonempty α1) (n2 : Nonempty α2) (n3 : Nonempty α3) (n4 : Nonempty α4) (n5 : Nonempty α5) (n6 : Nonempty α6) (n7 : Nonempty α7) (n8 : Nonempty α8) (n9 : Nonempty α9) (n10 : Nonempty α10) (n11 : Nonempty α11) (n12 : Nonempty α12) (n13 : Nonempty α13) (n14 : Nonempty α14) (n15 : Nonempty α15) (n16 : Nonempty α16) (n17 : Nonempty α17) (n18 : Nonempty α18) (n19 : Nonempty α19) (n20 : Nonempty α20) (n21 : Nonempty α21) (n22 : Nonempty α22) : Nonempty (α0 × α1 × α2 × α3 × α4 × α5 × α6 × α7 × α8 × α9 × α10 × α11 × α12 × α13 × α14 × α15 × α16 × α17 × α18 × α19 × α20 × α21 × α22) := n0.elim fun a0 => n1.elim fun a1 => n2.elim fun a2 => n3.elim fun a3 => n4.elim fun a4 => n5.elim fun a5 => n6.elim fun a6 => n7.elim fun a7 => n8.elim fun a8 => n9.elim fun a9 => n10.elim fun a10 => n11.elim fun a11 => n12.elim fun a12 => n13.elim fun a13 => n14.elim fun a14 => n15.elim fun a15 => n16.elim fun a16 => n17.elim fun a17 => n18.elim fun a18 => n19.elim fun a19 => n20.elim fun a20 => n21.elim fun a21 => n22.elim fun a22 => ⟨a0, a1, a2, a3, a4, a5, a6, a7, a8, a9, a10, a11, a12, a13, a14, a15, a16, a17, a18, a19, a20, a21, a22⟩
noncomputable def e23 (ne : Nonempty (α0 × α1 × α2 × α3 × α4 × α5 × α6 × α7 × α8 × α9 × α10 × α11 × α12 × α13 × α14 × α15 × α16 × α17 × α18 × α19 × α20 × α21 × α22)) (P : α0 → α1 → α2 → α3 → α4 → α5 → α6 → α7 → α8 → α9 → α10 → α11 → α12 → α13 → α14 → α15 → α16 → α17 → α18 → α19 → α20 → α21 → α22 → Prop) : α0 × α1 × α2 × α3 × α4 × α5 × α6 × α7 × α8 × α9 × α10 × α11 × α12 × α13 × α14 × α15 × α16 × α17 × α18 × α19 × α20 × α21 × α22 := @Classical.epsilon _ ne fun c => ¬ P c.1 c.2.1 c.2.2.1 c.2.2.2.1 c.2.2.2.2.1 c.2.2.2.2.2.1 c.2.2.2.2.2.2.1 c.2.2.2.2.2.2.2.1 c.2.2.2.2.2.2.2.2.1 c.2.2.2.2.2.2.2.2.2.1 c.2.2.2.2.2.2.2.2.2.2.1 c.2.2.2.2.2.2.2.2.2.2.2.1 c.2.2.2.2.2.2.2.2.2.2.2.2.1 c.2.2.2.2.2.2.2.2.2.2.2.2.2.1 c.2.2.2.2.2.2.2.2.2.2.2.2.2.2.1 c.2.2.2.2.2.2.2.2.2.2.2.2.2.2.2.1 c.2.2.2.2.2.2.2.2.2.2.2.2.2.2.2.2.1 c.2.2.2.2.2.2.2.2.2.2.2.2.2.2.2.2.2.1 c.2.2.2.2.2.2.2.2.2.2.2.2.2.2.2.2.2.2.1 c.2.2.2.2.2.2.2.2.2.2.2.2.2.2.2.2.2.2.2.1 c.2.2.2.2.2.2.2.2.2.2.2.2.2.2.2.2.2.2.2.2.1 c.2.2.2.2.2.2.2.2.2.2.2.2.2.2.2.2.2.2.2.2.2.1 c.2.2.2.2.2.2.2.2.2.2.2.2.2.2.2.2.2.2.2.2.2.2
noncomputable def At23 (P : α0 → α1 → α2 → α3 → α4 → α5 → α6 → α7 → α8 → α9 → α10 → α11 → α12 → α13 → α14 → α15 → α16 → α17 → α18 → α19 → α20 → α21 → α22 → Prop) (a0 : α0) (a1 : α1) (a2 : α2) (a3 : α3) (a4 : α4) (a5 : α5) (a6 : α6) (a7 : α7) (a8 : α8) (a9 : α9) (a10 : α10) (a11 : α11) (a12 : α12) (a13 : α13) (a14 : α14) (a15 : α15) (a16 : α16) (a17 : α17) (a18 : α18) (a19 : α19) (a20 : α20) (a21 : α21) (a22 : α22) : Prop := P a0 a1 a2 a3 a4 a5 a6 a7 a8 a9 a10 a11 a12 a13 a14 a15 a16 a17 a18 a19 a20 a21 a22
theorem At23.mk {P : α0 → α1 → α2 → α3 → α4 → α5 → α6 → α7 → α8 → α9 → α10 → α11 → α12 → α13 → α14 → α15 → α16 → α17 → α18 → α19 → α20 → α21 → α22 → Prop} {a0 : α0} {a1 : α1} {a2 : α2} {a3 : α3} {a4 : α4} {a5 : α5} {a6 : α6} {a7 : α7} {a8 : α8} {a9 : α9} {a10 : α10} {a11 : α11} {a12 : α12} {a13 : α13} {a14 : α14} {a15 : α15} {a16 : α16} {a17 : α17} {a18 : α18} {a19 : α19} {a20 : α20} {a21 : α21} {a22 : α22} (h : P a0 a1 a2 a3 a4 a5 a6 a7 a8 a9 a10 a11 a12 a13 a14 a15 a16 a17 a18 a19 a20 a21 a22) : At23 P a0 a1 a2 a3 a4 a5 a6 a7 a8 a9 a10 a11 a12 a13 a14 a15 a16 a17 a18 a19 a20 a21 a22 := h
theorem eps23 {P : α0 → α1 → α2 → α3 → α4 → α5 → α6 → α7 → α8 → α9 → α10 → α11 → α12 → α13 → α14 → α15 → α16 → α17 → α18 → α19 → α20 → α21 → α22 → Prop} (ne : Nonempty (α0 × α1 × α2 × α3 × α4 × α5 × α6 × α7 × α8 × α9 × α10 × α11 × α12 × α13 × α14 × α15 × α16 × α17 × α18 × α19 × α20 × α21 × α22)) (h : At23 P (e23 ne P).1 (e23 ne P).2.1 (e23 ne P).2.2.1 (e23 ne P).2.2.2.1 (e23 ne P).2.2.2.2.1 (e23 ne P).2.2.2.2.2.1 (e23 ne P).2.2.2.2.2.2.1 (e23 ne P).2.2.2.2.2.2.2.1 (e23 ne P).2.2.2.2.2.2.2.2.1 (e23 ne P).2.2.2.2.2.2.2.2.2.1 (e23 ne P).2.2.2.2.2.2.2.2.2.2.1 (e23 ne P).2.2.2.2.2.2.2.2.2.2.2.1 (e23 ne P).2.2.2.2.2.2.2.2.2.2.2.2.1 (e23 ne P).2.2.2.2.2.2.2.2.2.2.2.2.2.1 (e23 ne P).2.2.2.2.2.2.2.2.2.2.2.2.2.2.1 (e23 ne P).2.2.2.2.2.2.2.2.2.2.2.2.2.2.2.1 (e23 ne P).2.2.2.2.2.2.2.2.2.2.2.2.2.2.2.2.1 (e23 ne P).2.2.2.2.2.2.2.2.2.2.2.2.2.2.2.2.2.1 (e23 ne P).2.2.2.2.2.2.2.2.2.2.2.2.2.2.2.2.2.2.1 (e23 ne P).2.2.2.2.2.2.2.2.2.2.2.2.2.2.2.2.2.2.2.1 (e23 ne P).2.2.2.2.2.2.2.2.2.2.2.2.2.2.2.2.2.2.2.2.1 (e23 ne P).2.2.2.2.2.2.2.2.2.2.2.2.2.2.2.2.2.2.2.2.2.1 (e23 ne P).2.2.2.2.2.2.2.2.2.2.2.2.2.2.2.2.2.2.2.2.2.2) : ∀ a0 a1 a2 a3 a4 a5 a6 a7 a8 a9 a10 a11 a12 a13 a14 a15 a16 a17 a18 a19 a20 a21 a22, P a0 a1 a2 a3 a4 a5 a6 a7 a8 a9 a10 a11 a12 a13 a14 a15 a16 a17 a18 a19 a20 a21 a22 := fun a0 a1 a2 a3 a4 a5 a6 a7 a8 a9 a10 a11 a12 a13 a14 a15 a16 a17 a18 a19 a20 a21 a22 =>
  Classical.byContradiction fun hn => @Classical.epsilon_spec (α0 × α1 × α2 × α3 × α4 × α5 × α6 × α7 × α8 × α9 × α10 × α11 × α12 × α13 × α14 × α15 × α16 × α17 × α18 × α19 × α20 × α21 × α22) (fun c => ¬ P c.1 c.2.1 c.2.2.1 c.2.2.2.1 c.2.2.2.2.1 c.2.2.2.2.2.1 c.2.2.2.2.2.2.1 c.2.2.2.2.2.2.2.1 c.2.2.2.2.2.2.2.2.1 c.2.2.2.2.2.2.2.2.2.1 c.2.2.2.2.2.2.2.2.2.2.1 c.2.2.2.2.2.2.2.2.2.2.2.1 c.2.2.2.2.2.2.2.2.2.2.2.2.1 c.2.2.2.2.2.2.2.2.2.2.2.2.2.1 c.2.2.2.2.2.2.2.2.2.2.2.2.2.2.1 c.2.2.2.2.2.2.2.2.2.2.2.2.2.2.2.1 c.2.2.2.2.2.2.2.2.2.2.2.2.2.2.2.2.1 c.2.2.2.2.2.2.2.2.2.2.2.2.2.2.2.2.2.1 c.2.2.2.2.2.2.2.2.2.2.2.2.2.2.2.2.2.2.1 c.2.2.2.2.2.2.2.2.2.2.2.2.2.2.2.2.2.2.2.1 c.2.2.2.2.2.2.2.2.2.2.2.2.2.2.2.2.2.2.2.2.1 c.2.2.2.2.2.2.2.2.2.2.2.2.2.2.2.2.2.2.2.2.2.1 c.2.2.2.2.2.2.2.2.2.2.2.2.2.2.2.2.2.2.2.2.2.2) ⟨(a0, a1, a2, a3, a4, a5, a6, a7, a8, a9, a10, a11, a12, a13, a14, a15, a16, a17, a18, a19, a20, a21, a22), hn⟩ h
end
theorem ne_cx : Nonempty (World × Program × List Str × (ExcName → Option Value) × (Str → Option Value) × (Str → Option Value) × Nat × Nat × Option (List Code) × Str × Scope × Addr × Value × List (Str × Addr) × List Env × Around × Heap × Heap × Addr × (Str → Option Value) × Shared × (Value → Shared → Prop) × (Value → Shared → Prop)) := ⟨PySem.W.aWorld 0, default, [], fun _ => none, fun _ => none, fun _ => none, 0, 0, none, default, default, 0, default, [], [], {}, default, default, 0, fun _ => none, {}, fun _ _ => True, fun _ _ => True⟩
end Mine
-- Base
namespace Mine
theorem room2 {d a b c R : Nat} (h : d + a < R) (e : Nat.ble (b + c) a = true) : d + b + c < R := by
  have := Nat.le_of_ble_eq_true e
  omega
theorem units2 {u a b c R : Nat} (h : u + a < R) (_ : cLine = 9900) (e : Nat.ble (b + c) a = true) : u + b + c < R := room2 h e
theorem fn {α : Type} {P : α → Prop} : ∀ q ∈ ([] : List α), P q := fun _ h => nomatch h
theorem fc {α : Type} {P : α → Prop} {a : α} {l : List α} (h : P a) (t : ∀ q ∈ l, P q) : ∀ q ∈ a :: l, P q := fun q hq => by
  cases hq with
  | head => exact h
  | tail _ hq => exact t q hq
theorem fa {α : Type} {P : α → Prop} {l r : List α} (h : ∀ q ∈ l, P q) (t : ∀ q ∈ r, P q) : ∀ q ∈ l ++ r, P q := fun q hq => (List.mem_append.mp hq).elim (h q) (t q)
theorem mi {α : Type} {l : List α} {a : α} (i : Nat) (h : l[i]? = some a) : a ∈ l := List.mem_of_getElem? h
noncomputable abbrev Led := List (Addr × Obj)
/-- all that stood stands, but at the addresses of as -/
noncomputable def Kp (h h' : Heap) (as : List Addr) : Prop := ∀ b o, h.get? b = some o → b ∉ as → h'.get? b = some o

/-- a def's contract: it changes the objects of sub alone, and what it hands back is told by post -/
noncomputable def Cl (room : Nat) (f : Addr) (pos : List Value) (kw : List (Str × Value)) (sub : Led) (pre : Heap → Prop) (post : Value → Heap → Heap → Prop) : Prop :=
  ∀ (w : World) (p : Program) (loose : List Str) (mean : ExcName → Option Value) (mg mb : Str → Option Value) (dp un : Nat) (gd : Option (List Code)) (cn : Str) (cs : Scope) (a : Addr) (ccd : Value) (cl : List (Str × Addr)) (outer : List Env) (A₀ : Around) (base h₀ : Heap) (L : Addr) (m : Str → Option Value) (s : Shared) (Q E : Value → Shared → Prop),
    Below A₀ base outer h₀ → Fr h₀ L s.heap m → (hd.heap_1 w.params).In h₀ → Top p loose mean mg mb h₀ → cs.kind = .function → News h₀ L s.heap sub → pre s.heap →
    dp + room < recursionLimit → un + 20 * room < cLine →
    (∀ v h' tk', Kp s.heap h' (sub.map (·.1)) → post v s.heap h' → Q v { s with heap := h', toks := tk' }) →
    codeAny (model Challenge.rw_wj0057_01.row.prog w) (ktrTop dp un gd cn cs L a ccd cl outer) (.call (.ref f) ⟨pos, kw⟩) (fun r s' => match r with | .ok (.ret v) => Q v s' | .ok _ => False | .error e => E e s') s

theorem Fr.kp {h₀ h h' : Heap} {L : Addr} {m : Str → Option Value} {sub : Led} (F : Fr h₀ L h m) (N : News h₀ L h sub) (k : Kp h h' (sub.map (·.1))) : Fr h₀ L h' m := by
  have off : ∀ b o, h₀.get? b = some o → b ∉ sub.map (·.1) := fun b o e hb => by
    obtain ⟨p, hp, rfl⟩ := List.mem_map.mp hb
    rw [(N p hp).2.2] at e; cases e
  have offL : L ∉ sub.map (·.1) := fun hb => by
    obtain ⟨p, hp, e⟩ := List.mem_map.mp hb
    exact (N p hp).2.1 e
  obtain ⟨o, es, ep, hL, r⟩ := F.ns
  exact ⟨⟨o, es, ep, k _ _ hL offL, r⟩, fun b o e => k _ _ (F.keep b o e) (off b o e), F.above⟩
theorem kp_nil {h h' : Heap} (k : Kp h h' []) : ∀ b o, h.get? b = some o → h'.get? b = some o := fun b o e => k b o e (by simp)

/-- use of a contract that changes nothing -/
theorem cl_pure {room : Nat} {f : Addr} {pos : List Value} {kw : List (Str × Value)} {pre : Heap → Prop} {post : Value → Heap → Heap → Prop} (C : Cl room f pos kw [] pre post)
    {w : World} {p : Program} {loose : List Str} {mean : ExcName → Option Value} {mg mb : Str → Option Value} {dp un : Nat} {gd : Option (List Code)} {cn : Str} {cs : Scope} {a : Addr} {ccd : Value} {cl : List (Str × Addr)} {outer : List Env} {A₀ : Around} {base h₀ : Heap} {L : Addr} {m : Str → Option Value} {s : Shared} {Q E : Value → Shared → Prop} {news : Led}
    (B : Below A₀ base outer h₀) (F : Fr h₀ L s.heap m) (X : (hd.heap_1 w.params).In h₀) (T : Top p loose mean mg mb h₀) (hk : cs.kind = .function) (N : News h₀ L s.heap news)
    (hpre : pre s.heap) (hd : dp + room < recursionLimit) (hu : un + 20 * room < cLine)
    (ret : ∀ v h' tk', Fr h₀ L h' m → News h₀ L h' news → post v s.heap h' → Q v { s with heap := h', toks := tk' }) :
    wpAny (model Challenge.rw_wj0057_01.row.prog w) (ktrTop dp un gd cn cs L a ccd cl outer) (call (.ref f) pos kw) Q E s :=
  wpAny_call (C _ _ _ _ _ _ _ _ _ _ _ _ _ _ _ _ _ _ _ _ _ _ _ B F X T hk News.nil hpre hd hu fun v h' tk' k hp => ret v h' tk' (Fr.kp F News.nil k) (News.grown N (kp_nil k)) hp)
section
variable {prog : Program} {w : World} {A₀ A : Around} {s : Shared} {base h₀ : Heap} {outer : List Env} {L : Addr} {m : Str → Option Value} {env : Env} {news : Led}
/-- a call of a def whose names nested code keeps, over a part of the ledger; what else stood is told by GSub -/
theorem enter_cells {K : Frag} {p : Program} {loose : List Str} {mean : ExcName → Option Value} {mg mb : Str → Option Value} {R : Result → Shared → Prop} {name qual : Str} {params : Arguments} {body : List Stmt} {scope : Scope} {dV kV doc pm cdv ct oc : Value} {an od : Option Addr} {osl : Array (Option Value)} {f : Addr} {args : Args} {binds : List (Str × Value)}
    (B : Below A₀ base outer h₀) (F : Fr h₀ L s.heap m) (X₀ : K.In h₀) (N : News h₀ L s.heap news) (T : Top p loose mean mg mb h₀) (hA : A.frames = some (env :: outer)) (hf : env.frame = some L) (hke : env.scope.kind = .function)
    (ho : K.lookup f = some ⟨oc, od, .func (fnOf name qual params body scope dV kV doc pm an cdv ct), osl⟩) (hcd : codeIn K cdv qual = true) (hroom : A.depth < recursionLimit)
    (hbind : BindsTo s (fnOf name qual params body scope dV kV doc pm an cdv ct) args binds) (hkind : (binds.all fun y => scope.names.lookup y.1 == some .local || scope.names.lookup y.1 == some .cell) = true)
    (hnd : ((cellsFrom 0 scope.names []).map (·.1)).Nodup)
    (h : ∀ g L' h₁ tk cells, Fr h₀ L g m → Fr g L' h₁ (bindL (envOfC qual scope L' f cdv).kindOf binds fun _ => none) → News g L' h₁ (cells ++ news) →
      CellsAre (bindC (envOfC qual scope L' f cdv).kindOf binds fun _ => none) (cellsFrom (L' + 1) scope.names []) cells → Below A base (env :: outer) g → K.In g → Top p loose mean mg mb g → (∀ p ∈ news, p.1 < L') → GSub s.heap g (news.map (·.1)) →
      wpAny (model prog w) (A.deeper (envOfC qual scope L' f cdv)) (execs body (envOfC qual scope L' f cdv))
        (fun fl s' => LeaveK h₀ L m g R (match fl with | .ret v => v | _ => .none) s')
        (fun e s' => wpAny (model prog w) (A.deeper (envOfC qual scope L' f cdv)) (leaving (envOfC qual scope L' f cdv) e) (fun _ s'' => R (.error e) s'') (fun e' s'' => R (.error e') s'') s')
        { s with heap := h₁, toks := tk })
    (hco : scope.isCoroutine = false) (hgen : scope.isGenerator = false) (hk : scope.kind = .function) : codeAny (model prog w) A (.call (.ref f) args) R s := by
  have gr := groundX (R := R) B F N hA hf hke
  have size9 := hideAll_size (news.map (·.1)) s.heap
  refine codeAny_call_function (fd := fnX name qual params body scope [] dV kV doc pm an cdv ct) hroom ((X₀.keeps F.keep) _ _ ho) rfl hco hgen rfl (codeRec_of (X₀.keeps F.keep) hcd) (hbind _ _ _ _ ?_)
  refine wpAny_newFunctionEnv_cells hk (kindsX hkind _) fun env' he s' x => ?_
  subst he
  have up : ∀ b o, s.heap.get? b = some o → s'.heap.get? b = some o := x.toInCall.keep
  refine ⟨(T.nolimit.keeps F.keep).keeps up, codeAny_func ?_⟩
  obtain ⟨h₁, tk, rfl, _⟩ := x.done
  have nd : ((cellsFrom (s.heap.objs.size + 1) scope.names []).map (·.1)).Nodup := cellsFrom_names scope.names 0 (s.heap.objs.size + 1) [] [] rfl ▸ hnd
  obtain ⟨cells, NC, Y⟩ := Cl.news (h₀ := s.heap) (Nat.le_refl _) fun n c hm => ⟨x.cell n c (lookup_of_mem_nodup nd hm), x.above n c hm⟩
  have F₁ : Fr (hideAll s.heap (news.map (·.1))) s.heap.objs.size h₁ (bindL (envOfC qual scope s.heap.objs.size f cdv).kindOf binds fun _ => none) :=
    ⟨x.toInCall.ns, fun b o e => up b o (of_hideAll _ e), by rw [size9]; exact Nat.le_refl _⟩
  have N₁ : News (hideAll s.heap (news.map (·.1))) s.heap.objs.size h₁ (cells ++ news) := by
    intro q hq
    rcases List.mem_append.mp hq with hq | hq
    · refine ⟨(NC q hq).1, (NC q hq).2.1, ?_⟩
      rcases hh : (hideAll s.heap (news.map (·.1))).get? q.1 with _ | o
      · exact hh
      · exact absurd (of_hideAll _ hh) (by rw [(NC q hq).2.2]; simp)
    · exact ⟨up _ _ (N q hq).1, Nat.ne_of_lt (Heap.lt_size (N q hq).1), hideAll_none _ (List.mem_map_of_mem hq)⟩
  exact wpAny_mono (h _ s.heap.objs.size h₁ tk cells gr.1 F₁ N₁ Y gr.2.1 (X₀.keeps gr.2.2.1) (T.keeps gr.2.2.1) (fun q hq => Heap.lt_size (N q hq).1) (fun b o e hb => hideAll_get _ e hb))
    (fun fl s₂ hl => gr.2.2.2 _ _ hl) fun _ _ y => y
end
section
variable {h₀ h h' : Heap} {L : Addr} {news news' mid sub : Led}
/-- behind a contract that turns one object of the ledger -/
theorem led_upd (N : News h₀ L h news) (hsub : ∀ q ∈ sub, q ∈ news) (k : Kp h h' (sub.map (·.1))) {d : Addr} {o o' : Obj} (U : Upd d o o' news news') (hd : h'.get? d = some o')
    (hrest : ∀ q ∈ sub, q.1 ≠ d → h'.get? q.1 = some q.2) : News h₀ L h' news' := by
  obtain ⟨pre, post, rfl, rfl, a, b⟩ := U.split
  have old : ∀ p ∈ pre ++ (d, o) :: post, p.1 ≠ d → h'.get? p.1 = some p.2 ∧ p.1 ≠ L ∧ h₀.get? p.1 = none := fun p hp hne => by
    refine ⟨?_, (N p hp).2⟩
    by_cases hs : p.1 ∈ sub.map (·.1)
    · obtain ⟨q, hq, e⟩ := List.mem_map.mp hs
      have e1 := (N q (hsub q hq)).1
      have e2 := hrest q hq (by rw [e]; exact hne)
      rw [e] at e1 e2
      have e3 := (N p hp).1
      rw [e1] at e3
      rw [e2]; exact e3
    · exact k _ _ (N p hp).1 hs
  intro p hp
  rcases List.mem_append.mp hp with hp | hp
  · exact old p (List.mem_append_left _ hp) (a p hp)
  rcases List.mem_cons.mp hp with rfl | hp
  · exact ⟨hd, (N (d, o) (by simp)).2⟩
  · exact old p (List.mem_append_right _ (.tail _ hp)) (b p hp)
theorem Upd.mem {d : Addr} {o o' : Obj} (U : Upd d o o' news news') : (d, o) ∈ news := by
  obtain ⟨pre, post, rfl, _⟩ := U.split
  simp
/-- use of a contract that turns one object -/
theorem cl_upd {room : Nat} {f : Addr} {pos : List Value} {kw : List (Str × Value)} {pre : Heap → Prop} {post : Value → Heap → Heap → Prop} (C : Cl room f pos kw sub pre post)
    {w : World} {p : Program} {loose : List Str} {mean : ExcName → Option Value} {mg mb : Str → Option Value} {dp un : Nat} {gd : Option (List Code)} {cn : Str} {cs : Scope} {a : Addr} {ccd : Value} {cl : List (Str × Addr)} {outer : List Env} {A₀ : Around} {base : Heap} {m : Str → Option Value} {s : Shared} {Q E : Value → Shared → Prop}
    {d : Addr} {o o' : Obj} (B : Below A₀ base outer h₀) (F : Fr h₀ L s.heap m) (X : (hd.heap_1 w.params).In h₀) (T : Top p loose mean mg mb h₀) (hk : cs.kind = .function) (N : News h₀ L s.heap news)
    (hsub : ∀ q ∈ sub, q ∈ news) (U : Upd d o o' news news') (hpost : ∀ v h₁ h₂, post v h₁ h₂ → h₂.get? d = some o' ∧ ∀ q ∈ sub, q.1 ≠ d → h₂.get? q.1 = some q.2)
    (hpre : pre s.heap) (hd : dp + room < recursionLimit) (hu : un + 20 * room < cLine)
    (ret : ∀ v h' tk', Fr h₀ L h' m → News h₀ L h' news' → post v s.heap h' → Q v { s with heap := h', toks := tk' }) :
    wpAny (model Challenge.rw_wj0057_01.row.prog w) (ktrTop dp un gd cn cs L a ccd cl outer) (call (.ref f) pos kw) Q E s :=
  have Ns : News h₀ L s.heap sub := fun q hq => N q (hsub q hq)
  wpAny_call (C _ _ _ _ _ _ _ _ _ _ _ _ _ _ _ _ _ _ _ _ _ _ _ B F X T hk Ns hpre hd hu fun v h' tk' k hp =>
    have z := hpost _ _ _ hp
    ret v h' tk' (Fr.kp F Ns k) (led_upd N hsub k U z.1 z.2) hp)
end
section
variable {h₀ h h' : Heap} {L : Addr} {news news' mid sub : Led}
theorem Upd.off {d : Addr} {o o' : Obj} (U : Upd d o o' news news') : ∀ p ∈ news', p.1 = d → p = (d, o') := by
  obtain ⟨pre, post, rfl, rfl, a, b⟩ := U.split
  intro p hp e
  rcases List.mem_append.mp hp with hp | hp
  · exact absurd e (a p hp)
  rcases List.mem_cons.mp hp with rfl | hp
  · rfl
  · exact absurd e (b p hp)
theorem Upd.old {d : Addr} {o o' : Obj} (U : Upd d o o' news news') : ∀ p ∈ news', p.1 ≠ d → p ∈ news := by
  obtain ⟨pre, post, rfl, rfl, a, b⟩ := U.split
  intro p hp e
  rcases List.mem_append.mp hp with hp | hp
  · exact List.mem_append_left _ hp
  rcases List.mem_cons.mp hp with rfl | hp
  · exact absurd rfl e
  · exact List.mem_append_right _ (.tail _ hp)
/-- behind a contract that turns two objects of the ledger -/
theorem led_upd2 (N : News h₀ L h news) (hsub : ∀ q ∈ sub, q ∈ news) (k : Kp h h' (sub.map (·.1))) {d e : Addr} {o o' x x' : Obj} (U : Upd d o o' news mid) (V : Upd e x x' mid news') (hne : d ≠ e) (hd : h'.get? d = some o') (he : h'.get? e = some x')
    (hrest : ∀ q ∈ sub, q.1 ≠ d → q.1 ≠ e → h'.get? q.1 = some q.2) : News h₀ L h' news' := by
  intro p hp
  by_cases p2 : p.1 = e
  · have := Upd.off V p hp p2
    subst this
    have m1 : (e, x) ∈ news := Upd.old U _ (Upd.mem V) (Ne.symm hne)
    exact ⟨he, (N _ m1).2⟩
  have p3 := Upd.old V p hp p2
  by_cases p1 : p.1 = d
  · have := Upd.off U p p3 p1
    subst this
    exact ⟨hd, (N _ (Upd.mem U)).2⟩
  have p4 := Upd.old U p p3 p1
  refine ⟨?_, (N p p4).2⟩
  by_cases hs : p.1 ∈ sub.map (·.1)
  · obtain ⟨q, hq, e9⟩ := List.mem_map.mp hs
    have e1 := (N q (hsub q hq)).1
    have e2 := hrest q hq (by rw [e9]; exact p1) (by rw [e9]; exact p2)
    rw [e9] at e1 e2
    have e3 := (N p p4).1
    rw [e1] at e3
    rw [e2]; exact e3
  · exact k _ _ (N p p4).1 hs
/-- behind a contract that turns nothing of its part -/
theorem led_same (N : News h₀ L h news) (hsub : ∀ q ∈ sub, q ∈ news) (k : Kp h h' (sub.map (·.1))) (hrest : ∀ q ∈ sub, h'.get? q.1 = some q.2) : News h₀ L h' news := by
  intro p p4
  refine ⟨?_, (N p p4).2⟩
  by_cases hs : p.1 ∈ sub.map (·.1)
  · obtain ⟨q, hq, e9⟩ := List.mem_map.mp hs
    have e1 := (N q (hsub q hq)).1
    have e2 := hrest q hq
    rw [e9] at e1 e2
    have e3 := (N p p4).1
    rw [e1] at e3
    rw [e2]; exact e3
  · exact k _ _ (N p p4).1 hs
/-- use of a contract over a part of the ledger: what the ledger is behind it is for the caller to say -/
theorem cl_code {room : Nat} {f : Addr} {pos : List Value} {kw : List (Str × Value)} {pre : Heap → Prop} {post : Value → Heap → Heap → Prop} (C : Cl room f pos kw sub pre post)
    {w : World} {p : Program} {loose : List Str} {mean : ExcName → Option Value} {mg mb : Str → Option Value} {dp un : Nat} {gd : Option (List Code)} {cn : Str} {cs : Scope} {a : Addr} {ccd : Value} {cl : List (Str × Addr)} {outer : List Env} {A₀ : Around} {base : Heap} {m : Str → Option Value} {s : Shared} {Q E : Value → Shared → Prop}
    (B : Below A₀ base outer h₀) (F : Fr h₀ L s.heap m) (X : (hd.heap_1 w.params).In h₀) (T : Top p loose mean mg mb h₀) (hk : cs.kind = .function) (N : News h₀ L s.heap news)
    (hsub : ∀ q ∈ sub, q ∈ news) (hpre : pre s.heap) (hd : dp + room < recursionLimit) (hu : un + 20 * room < cLine)
    (ret : ∀ v h' tk', Fr h₀ L h' m → Kp s.heap h' (sub.map (·.1)) → post v s.heap h' → Q v { s with heap := h', toks := tk' }) :
    codeAny (model Challenge.rw_wj0057_01.row.prog w) (ktrTop dp un gd cn cs L a ccd cl outer) (.call (.ref f) ⟨pos, kw⟩) (fun r s' => match r with | .ok (.ret v) => Q v s' | .ok _ => False | .error e => E e s') s :=
  have Ns : News h₀ L s.heap sub := fun q hq => N q (hsub q hq)
  C _ _ _ _ _ _ _ _ _ _ _ _ _ _ _ _ _ _ _ _ _ _ _ B F X T hk Ns hpre hd hu fun v h' tk' k hp => ret v h' tk' (Fr.kp F Ns k) k hp
theorem cl_gen {room : Nat} {f : Addr} {pos : List Value} {kw : List (Str × Value)} {pre : Heap → Prop} {post : Value → Heap → Heap → Prop} (C : Cl room f pos kw sub pre post)
    {w : World} {p : Program} {loose : List Str} {mean : ExcName → Option Value} {mg mb : Str → Option Value} {dp un : Nat} {gd : Option (List Code)} {cn : Str} {cs : Scope} {a : Addr} {ccd : Value} {cl : List (Str × Addr)} {outer : List Env} {A₀ : Around} {base : Heap} {m : Str → Option Value} {s : Shared} {Q E : Value → Shared → Prop}
    (B : Below A₀ base outer h₀) (F : Fr h₀ L s.heap m) (X : (hd.heap_1 w.params).In h₀) (T : Top p loose mean mg mb h₀) (hk : cs.kind = .function) (N : News h₀ L s.heap news)
    (hsub : ∀ q ∈ sub, q ∈ news) (hpre : pre s.heap) (hd : dp + room < recursionLimit) (hu : un + 20 * room < cLine)
    (ret : ∀ v h' tk', Fr h₀ L h' m → Kp s.heap h' (sub.map (·.1)) → post v s.heap h' → Q v { s with heap := h', toks := tk' }) :
    wpAny (model Challenge.rw_wj0057_01.row.prog w) (ktrTop dp un gd cn cs L a ccd cl outer) (call (.ref f) pos kw) Q E s :=
  wpAny_call (cl_code C B F X T hk N hsub hpre hd hu ret)
end
structure HideP (p : Prop) : Prop where
  h : p
/-- a stop of the walk -/
noncomputable def Hold (P : Prop) : Prop := P
theorem Hold.of {P : Prop} (h : Hold P) : P := h
theorem Hold.on {P : Prop} (h : P) : Hold P := h
end Mine
local macro_rules | `(tactic| walk_at $s:str) => `(tactic| k_extra $s)
local macro_rules | `(tactic| k_ne) => `(tactic| k_extra "kne")
local macro_rules | `(tactic| omega) => `(tactic| k_extra "omg")
-- Cut
namespace Mine
/-- a mark: the walk goes on through what it stops at else -/
structure GoOn : Prop where
  h : True
section
variable {M : Model} {A : Around} {E : Value → Shared → Prop} {s : Shared} {env : Env}
/-- what is wanted behind a step, as a letter: the terms stay small -/
theorem cut {α : Type} {t : Sem α} {Q : α → Shared → Prop} (h : ∀ R : α → Shared → Prop, (∀ v s', Q v s' → R v s') → wpAny M A t R (fun _ _ => False) s) : wpAny M A t Q E s :=
  wpAny_noRaise (h Q fun _ _ h => h)
theorem turn_cut {tgt : Expr} {v : Value} {body : List Stmt} {Q : Flow → Shared → Prop}
    (h : ∀ R : Flow → Shared → Prop, (∀ f s', Q f s' → R f s') → wpAny M A (assign tgt env v) (fun _ s₂ => wpAny M A (execs body env) R (fun _ _ => False) s₂) (fun _ _ => False) s) :
    wpAny M A (assign tgt env v) (fun _ s₂ => wpAny M A (execs body env) Q E s₂) E s :=
  wpAny_mono (wpAny_noRaise (h Q fun _ _ h => h)) (fun _ _ h => wpAny_noRaise h) fun _ _ h => h
/-- a statement apart from those behind it -/
theorem stmt_cut {st : Stmt} {rest : List Stmt} {Q : Flow → Shared → Prop} (Mid : Shared → Prop) (seg : ∀ R : Flow → Shared → Prop, (∀ s', Mid s' → R .next s') → wpAny M A (exec st env) R (fun _ _ => False) s)
    (go : ∀ s', Mid s' → wpAny M A (execs rest env) Q E s') : wpAny M A (execs (st :: rest) env) Q E s := by
  refine wpAny_execs_cons (wpAny_mono (wpAny_noRaise (seg (fun f s' => f = .next ∧ Mid s') fun s' h => ⟨rfl, h⟩)) ?_ fun _ _ h => h)
  rintro f s' ⟨rfl, h⟩
  exact go s' h
theorem exec_cut {st : Stmt} {Q : Flow → Shared → Prop} (Mid : Shared → Prop) (seg : ∀ R : Flow → Shared → Prop, (∀ s', Mid s' → R .next s') → wpAny M A (exec st env) R (fun _ _ => False) s)
    (go : ∀ s', Mid s' → Q .next s') : wpAny M A (exec st env) Q E s := by
  refine wpAny_mono (wpAny_noRaise (seg (fun f s' => f = .next ∧ Mid s') fun s' h => ⟨rfl, h⟩)) ?_ fun _ _ h => h
  rintro f s' ⟨rfl, h⟩
  exact go s' h
theorem any_tok {α : Type} {t : Sem α} {Q : α → Shared → Prop} (z : Shared) (h : Heap) (hs : s = { z with heap := h, toks := s.toks }) (H : ∀ n, wpAny M A t Q E { z with heap := h, toks := n }) : wpAny M A t Q E s := hs ▸ H _
end
section
variable {prog : Program} {w : World} {A : Around} {E : Value → Shared → Prop} {s : Shared} {env : Env} {h₀ : Heap} {L : Addr} {m : Str → Option Value} {news : Led}
/-- an if whose test changes nothing: the test apart -/
theorem if_cut {test : Expr} {body orelse : List Stmt} {pos : Pos} {Q : Flow → Shared → Prop} (B : Bool) (_F : Fr h₀ L s.heap m) (_N : News h₀ L s.heap news)
    (cond : ∀ R : Bool → Shared → Prop, (∀ h tk, Fr h₀ L h m → News h₀ L h news → R B { s with heap := h, toks := tk }) → wpAny (model prog w) A (isTrue test env (eval test env)) R (fun _ _ => False) s)
    (yes : B = true → ∀ h tk, Fr h₀ L h m → News h₀ L h news → wpAny (model prog w) A (execs body env) Q E { s with heap := h, toks := tk })
    (no : B = false → ∀ h tk, Fr h₀ L h m → News h₀ L h news → wpAny (model prog w) A (execs orelse env) Q E { s with heap := h, toks := tk }) :
    wpAny (model prog w) A (exec (.If test body orelse pos) env) Q E s := by
  refine wpAny_If (wpAny_mono (wpAny_noRaise (cond (fun b s₂ => b = B ∧ ∃ h tk, s₂ = { s with heap := h, toks := tk } ∧ Fr h₀ L h m ∧ News h₀ L h news) fun h tk F N => ⟨rfl, h, tk, rfl, F, N⟩)) ?_ fun _ _ h => h)
  rintro b s₂ ⟨rfl, h, tk, rfl, F, N⟩
  cases b
  · exact no rfl h tk F N
  · exact yes rfl h tk F N
end
end Mine
-- Ops
namespace Mine
noncomputable abbrev IntIs (i : Int) : Value → Heap → Heap → Prop := fun v _ _ => ∃ t, v = .int i t
noncomputable abbrev BoolIs (b : Bool) : Value → Heap → Heap → Prop := fun v _ _ => v = .bool b
noncomputable abbrev StrIs (x : Str) : Value → Heap → Heap → Prop := fun v _ _ => ∃ t, v = .str x t
theorem cl_add : ∀ (x y : Int) (t u : Tok), Cl 1 52 [.int x t, .int y u] [] [] (fun _ => True) (IntIs (x + y)) := by
  refine eps4 (ne4 ne_int ne_int ne_nat ne_nat) ((?_ : ∀ a0 a1 a2 a3, At4 _ a0 a1 a2 a3) _ _ _ _)
  intros x y t u
  refine At4.mk ?_
  k_with_none
  k_with "kne" => (refine neN ?_; (try dsimp only); first | exact Nat.ne_of_gt (by with_reducible assumption) | exact Nat.ne_of_lt (by with_reducible assumption) | with_reducible assumption | exact Ne.symm (by with_reducible assumption) | exact Nat.succ_ne_self _ | exact Ne.symm (Nat.succ_ne_self _) | (apply Nat.ne_of_gt; apply And.left; k_extra "krn"; done) | (apply Nat.ne_of_lt; apply And.left; k_extra "krn"; done) | (apply Nat.ne_of_gt; k_extra "krn"; done) | (apply Nat.ne_of_lt; k_extra "krn"; done) | k_extra "kd4" | (apply Ne.symm; k_extra "kd4") | omega)
  k_with "kd1" => first | with_reducible assumption | (apply And.left; with_reducible assumption) | (apply And.right; with_reducible assumption)
  k_with "kd2" => first | with_reducible assumption | (apply And.left; k_extra "kd1") | (apply And.right; k_extra "kd1")
  k_with "kd3" => first | with_reducible assumption | (apply And.left; k_extra "kd2") | (apply And.right; k_extra "kd2")
  k_with "kd4" => first | with_reducible assumption | (apply And.left; k_extra "kd3") | (apply And.right; k_extra "kd3")
  k_with "krn" => ((iterate 19 (first | done | with_reducible assumption | apply And.right)); done)
  k_with "omg" => first | exact Mine.room2 (by with_reducible assumption) rfl | exact Mine.units2 (by with_reducible assumption) cLine_is rfl | ((repeat (rename @Ne Nat _ _ => z9w; clear z9w)); (repeat (rename @Ne Nat _ _ ∧ _ => z9w; clear z9w)); (repeat (rename (@Ne Nat _ _ ∧ _) ∧ _ => z9w; clear z9w)); omega +splitDisjunctions)
  w_top off
  unfold Cl
  k_fill
  refine eps23 ne_cx ((?_ : ∀ w p loose mean mg mb dp un gd cn cs a ccd cl outer A₀ base h₀ L m s Q E, At23 _ w p loose mean mg mb dp un gd cn cs a ccd cl outer A₀ base h₀ L m s Q E) _ _ _ _ _ _ _ _ _ _ _ _ _ _ _ _ _ _ _ _ _ _ _)
  intros w p loose mean mg mb dp un gd cn cs a ccd cl outer A₀ base h₀ L m s Q E
  refine At23.mk ?_
  intros B F X T hk N hpre hd hu hret
  k_dflt (refine' code_defG ?k1 ?k2 ?k3 ?k4 ?k5 ?kA ?kF ?kK ?k6 ?k7 ?k8 ?k9 ?kB ?_ ?c2 ?c3 ?c4 ?c5; (case kA => exact rfl); (case kF => exact rfl); (case kK => assumption); (case k1 => k_asm); (case k2 => k_asm); (case k3 => k_asm); (case k4 => k_asm); (case k5 => k_asm); (case k6 => k_is); (case k7 => k_is); (case k8 => ktr_room); (case k9 => first | exact BindsTo.of_eq rfl | exact binds_K (by k_in) rfl (by k_is) rfl rfl rfl); (case c5 => decide); (case kB => exact locs rfl); (case c2 => exact rfl); (case c3 => exact rfl); (case c4 => exact rfl); k_whole; refine eps3 (ne3 ne_heap ne_nat ne_heap) ((?_ : ∀ a b c, At3 _ a b c) _ _ _); intros g' L' h'; refine At3.mk ?_; intros FG' F' N' B' X' T' kG'; (try dsimp only); (try k_fold))
  k_steps
  exact hret _ _ _ (fun b o e hb => Fr.keep (by with_reducible assumption) b o (kG' b o e hb)) ⟨_, rfl⟩
theorem cl_mul : ∀ (x y : Int) (t u : Tok) (hy : -(2 ^ 63) < y ∧ y < 2 ^ 63), Cl 1 66 [.int x t, .int y u] [] [] (fun _ => True) (IntIs (x * y)) := by
  refine eps4 (ne4 ne_int ne_int ne_nat ne_nat) ((?_ : ∀ a0 a1 a2 a3, At4 _ a0 a1 a2 a3) _ _ _ _)
  intros x y t u
  refine At4.mk ?_
  intros hy
  have hm : IntMulOk x y := IntMulOk.of_right (intBits_le_64 (by omega) (by omega))
  k_with_none
  k_with "kne" => (refine neN ?_; (try dsimp only); first | exact Nat.ne_of_gt (by with_reducible assumption) | exact Nat.ne_of_lt (by with_reducible assumption) | with_reducible assumption | exact Ne.symm (by with_reducible assumption) | exact Nat.succ_ne_self _ | exact Ne.symm (Nat.succ_ne_self _) | (apply Nat.ne_of_gt; apply And.left; k_extra "krn"; done) | (apply Nat.ne_of_lt; apply And.left; k_extra "krn"; done) | (apply Nat.ne_of_gt; k_extra "krn"; done) | (apply Nat.ne_of_lt; k_extra "krn"; done) | k_extra "kd4" | (apply Ne.symm; k_extra "kd4") | omega)
  k_with "kd1" => first | with_reducible assumption | (apply And.left; with_reducible assumption) | (apply And.right; with_reducible assumption)
  k_with "kd2" => first | with_reducible assumption | (apply And.left; k_extra "kd1") | (apply And.right; k_extra "kd1")
  k_with "kd3" => first | with_reducible assumption | (apply And.left; k_extra "kd2") | (apply And.right; k_extra "kd2")
  k_with "kd4" => first | with_reducible assumption | (apply And.left; k_extra "kd3") | (apply And.right; k_extra "kd3")
  k_with "krn" => ((iterate 19 (first | done | with_reducible assumption | apply And.right)); done)
  k_with "omg" => first | exact Mine.room2 (by with_reducible assumption) rfl | exact Mine.units2 (by with_reducible assumption) cLine_is rfl | ((repeat (rename @Ne Nat _ _ => z9w; clear z9w)); (repeat (rename @Ne Nat _ _ ∧ _ => z9w; clear z9w)); (repeat (rename (@Ne Nat _ _ ∧ _) ∧ _ => z9w; clear z9w)); omega +splitDisjunctions)
  w_top off
  unfold Cl
  k_fill
  refine eps23 ne_cx ((?_ : ∀ w p loose mean mg mb dp un gd cn cs a ccd cl outer A₀ base h₀ L m s Q E, At23 _ w p loose mean mg mb dp un gd cn cs a ccd cl outer A₀ base h₀ L m s Q E) _ _ _ _ _ _ _ _ _ _ _ _ _ _ _ _ _ _ _ _ _ _ _)
  intros w p loose mean mg mb dp un gd cn cs a ccd cl outer A₀ base h₀ L m s Q E
  refine At23.mk ?_
  intros B F X T hk N hpre hd hu hret
  k_dflt (refine' code_defG ?k1 ?k2 ?k3 ?k4 ?k5 ?kA ?kF ?kK ?k6 ?k7 ?k8 ?k9 ?kB ?_ ?c2 ?c3 ?c4 ?c5; (case kA => exact rfl); (case kF => exact rfl); (case kK => assumption); (case k1 => k_asm); (case k2 => k_asm); (case k3 => k_asm); (case k4 => k_asm); (case k5 => k_asm); (case k6 => k_is); (case k7 => k_is); (case k8 => ktr_room); (case k9 => first | exact BindsTo.of_eq rfl | exact binds_K (by k_in) rfl (by k_is) rfl rfl rfl); (case c5 => decide); (case kB => exact locs rfl); (case c2 => exact rfl); (case c3 => exact rfl); (case c4 => exact rfl); k_whole; refine eps3 (ne3 ne_heap ne_nat ne_heap) ((?_ : ∀ a b c, At3 _ a b c) _ _ _); intros g' L' h'; refine At3.mk ?_; intros FG' F' N' B' X' T' kG'; (try dsimp only); (try k_fold))
  k_steps
  exact hret _ _ _ (fun b o e hb => Fr.keep (by with_reducible assumption) b o (kG' b o e hb)) ⟨_, rfl⟩
theorem cl_mod : ∀ (x y : Int) (t u : Tok) (hy : y ≠ 0), Cl 1 59 [.int x t, .int y u] [] [] (fun _ => True) (IntIs (Int.fmod x y)) := by
  refine eps4 (ne4 ne_int ne_int ne_nat ne_nat) ((?_ : ∀ a0 a1 a2 a3, At4 _ a0 a1 a2 a3) _ _ _ _)
  intros x y t u
  refine At4.mk ?_
  intros hy
  k_with_none
  k_with "kne" => (refine neN ?_; (try dsimp only); first | exact Nat.ne_of_gt (by with_reducible assumption) | exact Nat.ne_of_lt (by with_reducible assumption) | with_reducible assumption | exact Ne.symm (by with_reducible assumption) | exact Nat.succ_ne_self _ | exact Ne.symm (Nat.succ_ne_self _) | (apply Nat.ne_of_gt; apply And.left; k_extra "krn"; done) | (apply Nat.ne_of_lt; apply And.left; k_extra "krn"; done) | (apply Nat.ne_of_gt; k_extra "krn"; done) | (apply Nat.ne_of_lt; k_extra "krn"; done) | k_extra "kd4" | (apply Ne.symm; k_extra "kd4") | omega)
  k_with "kd1" => first | with_reducible assumption | (apply And.left; with_reducible assumption) | (apply And.right; with_reducible assumption)
  k_with "kd2" => first | with_reducible assumption | (apply And.left; k_extra "kd1") | (apply And.right; k_extra "kd1")
  k_with "kd3" => first | with_reducible assumption | (apply And.left; k_extra "kd2") | (apply And.right; k_extra "kd2")
  k_with "kd4" => first | with_reducible assumption | (apply And.left; k_extra "kd3") | (apply And.right; k_extra "kd3")
  k_with "krn" => ((iterate 19 (first | done | with_reducible assumption | apply And.right)); done)
  k_with "omg" => first | exact Mine.room2 (by with_reducible assumption) rfl | exact Mine.units2 (by with_reducible assumption) cLine_is rfl | ((repeat (rename @Ne Nat _ _ => z9w; clear z9w)); (repeat (rename @Ne Nat _ _ ∧ _ => z9w; clear z9w)); (repeat (rename (@Ne Nat _ _ ∧ _) ∧ _ => z9w; clear z9w)); omega +splitDisjunctions)
  w_top off
  unfold Cl
  k_fill
  refine eps23 ne_cx ((?_ : ∀ w p loose mean mg mb dp un gd cn cs a ccd cl outer A₀ base h₀ L m s Q E, At23 _ w p loose mean mg mb dp un gd cn cs a ccd cl outer A₀ base h₀ L m s Q E) _ _ _ _ _ _ _ _ _ _ _ _ _ _ _ _ _ _ _ _ _ _ _)
  intros w p loose mean mg mb dp un gd cn cs a ccd cl outer A₀ base h₀ L m s Q E
  refine At23.mk ?_
  intros B F X T hk N hpre hd hu hret
  k_dflt (refine' code_defG ?k1 ?k2 ?k3 ?k4 ?k5 ?kA ?kF ?kK ?k6 ?k7 ?k8 ?k9 ?kB ?_ ?c2 ?c3 ?c4 ?c5; (case kA => exact rfl); (case kF => exact rfl); (case kK => assumption); (case k1 => k_asm); (case k2 => k_asm); (case k3 => k_asm); (case k4 => k_asm); (case k5 => k_asm); (case k6 => k_is); (case k7 => k_is); (case k8 => ktr_room); (case k9 => first | exact BindsTo.of_eq rfl | exact binds_K (by k_in) rfl (by k_is) rfl rfl rfl); (case c5 => decide); (case kB => exact locs rfl); (case c2 => exact rfl); (case c3 => exact rfl); (case c4 => exact rfl); k_whole; refine eps3 (ne3 ne_heap ne_nat ne_heap) ((?_ : ∀ a b c, At3 _ a b c) _ _ _); intros g' L' h'; refine At3.mk ?_; intros FG' F' N' B' X' T' kG'; (try dsimp only); (try k_fold))
  k_steps
  exact hret _ _ _ (fun b o e hb => Fr.keep (by with_reducible assumption) b o (kG' b o e hb)) ⟨_, rfl⟩
theorem cl_neg : ∀ (x : Int) (t : Tok), Cl 1 73 [.int x t] [] [] (fun _ => True) (IntIs (-x)) := by
  refine eps2 (ne2 ne_int ne_nat) ((?_ : ∀ a0 a1, At2 _ a0 a1) _ _)
  intros x t
  refine At2.mk ?_
  k_with_none
  k_with "kne" => (refine neN ?_; (try dsimp only); first | exact Nat.ne_of_gt (by with_reducible assumption) | exact Nat.ne_of_lt (by with_reducible assumption) | with_reducible assumption | exact Ne.symm (by with_reducible assumption) | exact Nat.succ_ne_self _ | exact Ne.symm (Nat.succ_ne_self _) | (apply Nat.ne_of_gt; apply And.left; k_extra "krn"; done) | (apply Nat.ne_of_lt; apply And.left; k_extra "krn"; done) | (apply Nat.ne_of_gt; k_extra "krn"; done) | (apply Nat.ne_of_lt; k_extra "krn"; done) | k_extra "kd4" | (apply Ne.symm; k_extra "kd4") | omega)
  k_with "kd1" => first | with_reducible assumption | (apply And.left; with_reducible assumption) | (apply And.right; with_reducible assumption)
  k_with "kd2" => first | with_reducible assumption | (apply And.left; k_extra "kd1") | (apply And.right; k_extra "kd1")
  k_with "kd3" => first | with_reducible assumption | (apply And.left; k_extra "kd2") | (apply And.right; k_extra "kd2")
  k_with "kd4" => first | with_reducible assumption | (apply And.left; k_extra "kd3") | (apply And.right; k_extra "kd3")
  k_with "krn" => ((iterate 19 (first | done | with_reducible assumption | apply And.right)); done)
  k_with "omg" => first | exact Mine.room2 (by with_reducible assumption) rfl | exact Mine.units2 (by with_reducible assumption) cLine_is rfl | ((repeat (rename @Ne Nat _ _ => z9w; clear z9w)); (repeat (rename @Ne Nat _ _ ∧ _ => z9w; clear z9w)); (repeat (rename (@Ne Nat _ _ ∧ _) ∧ _ => z9w; clear z9w)); omega +splitDisjunctions)
  w_top off
  unfold Cl
  k_fill
  refine eps23 ne_cx ((?_ : ∀ w p loose mean mg mb dp un gd cn cs a ccd cl outer A₀ base h₀ L m s Q E, At23 _ w p loose mean mg mb dp un gd cn cs a ccd cl outer A₀ base h₀ L m s Q E) _ _ _ _ _ _ _ _ _ _ _ _ _ _ _ _ _ _ _ _ _ _ _)
  intros w p loose mean mg mb dp un gd cn cs a ccd cl outer A₀ base h₀ L m s Q E
  refine At23.mk ?_
  intros B F X T hk N hpre hd hu hret
  k_dflt (refine' code_defG ?k1 ?k2 ?k3 ?k4 ?k5 ?kA ?kF ?kK ?k6 ?k7 ?k8 ?k9 ?kB ?_ ?c2 ?c3 ?c4 ?c5; (case kA => exact rfl); (case kF => exact rfl); (case kK => assumption); (case k1 => k_asm); (case k2 => k_asm); (case k3 => k_asm); (case k4 => k_asm); (case k5 => k_asm); (case k6 => k_is); (case k7 => k_is); (case k8 => ktr_room); (case k9 => first | exact BindsTo.of_eq rfl | exact binds_K (by k_in) rfl (by k_is) rfl rfl rfl); (case c5 => decide); (case kB => exact locs rfl); (case c2 => exact rfl); (case c3 => exact rfl); (case c4 => exact rfl); k_whole; refine eps3 (ne3 ne_heap ne_nat ne_heap) ((?_ : ∀ a b c, At3 _ a b c) _ _ _); intros g' L' h'; refine At3.mk ?_; intros FG' F' N' B' X' T' kG'; (try dsimp only); (try k_fold))
  k_steps
  exact hret _ _ _ (fun b o e hb => Fr.keep (by with_reducible assumption) b o (kG' b o e hb)) ⟨_, rfl⟩
theorem cl_not : ∀ (x : Int) (t : Tok), Cl 1 45 [.int x t] [] [] (fun _ => True) (BoolIs (!(x != 0))) := by
  refine eps2 (ne2 ne_int ne_nat) ((?_ : ∀ a0 a1, At2 _ a0 a1) _ _)
  intros x t
  refine At2.mk ?_
  k_with_none
  k_with "kne" => (refine neN ?_; (try dsimp only); first | exact Nat.ne_of_gt (by with_reducible assumption) | exact Nat.ne_of_lt (by with_reducible assumption) | with_reducible assumption | exact Ne.symm (by with_reducible assumption) | exact Nat.succ_ne_self _ | exact Ne.symm (Nat.succ_ne_self _) | (apply Nat.ne_of_gt; apply And.left; k_extra "krn"; done) | (apply Nat.ne_of_lt; apply And.left; k_extra "krn"; done) | (apply Nat.ne_of_gt; k_extra "krn"; done) | (apply Nat.ne_of_lt; k_extra "krn"; done) | k_extra "kd4" | (apply Ne.symm; k_extra "kd4") | omega)
  k_with "kd1" => first | with_reducible assumption | (apply And.left; with_reducible assumption) | (apply And.right; with_reducible assumption)
  k_with "kd2" => first | with_reducible assumption | (apply And.left; k_extra "kd1") | (apply And.right; k_extra "kd1")
  k_with "kd3" => first | with_reducible assumption | (apply And.left; k_extra "kd2") | (apply And.right; k_extra "kd2")
  k_with "kd4" => first | with_reducible assumption | (apply And.left; k_extra "kd3") | (apply And.right; k_extra "kd3")
  k_with "krn" => ((iterate 19 (first | done | with_reducible assumption | apply And.right)); done)
  k_with "omg" => first | exact Mine.room2 (by with_reducible assumption) rfl | exact Mine.units2 (by with_reducible assumption) cLine_is rfl | ((repeat (rename @Ne Nat _ _ => z9w; clear z9w)); (repeat (rename @Ne Nat _ _ ∧ _ => z9w; clear z9w)); (repeat (rename (@Ne Nat _ _ ∧ _) ∧ _ => z9w; clear z9w)); omega +splitDisjunctions)
  w_top off
  unfold Cl
  k_fill
  refine eps23 ne_cx ((?_ : ∀ w p loose mean mg mb dp un gd cn cs a ccd cl outer A₀ base h₀ L m s Q E, At23 _ w p loose mean mg mb dp un gd cn cs a ccd cl outer A₀ base h₀ L m s Q E) _ _ _ _ _ _ _ _ _ _ _ _ _ _ _ _ _ _ _ _ _ _ _)
  intros w p loose mean mg mb dp un gd cn cs a ccd cl outer A₀ base h₀ L m s Q E
  refine At23.mk ?_
  intros B F X T hk N hpre hd hu hret
  k_dflt (refine' code_defG ?k1 ?k2 ?k3 ?k4 ?k5 ?kA ?kF ?kK ?k6 ?k7 ?k8 ?k9 ?kB ?_ ?c2 ?c3 ?c4 ?c5; (case kA => exact rfl); (case kF => exact rfl); (case kK => assumption); (case k1 => k_asm); (case k2 => k_asm); (case k3 => k_asm); (case k4 => k_asm); (case k5 => k_asm); (case k6 => k_is); (case k7 => k_is); (case k8 => ktr_room); (case k9 => first | exact BindsTo.of_eq rfl | exact binds_K (by k_in) rfl (by k_is) rfl rfl rfl); (case c5 => decide); (case kB => exact locs rfl); (case c2 => exact rfl); (case c3 => exact rfl); (case c4 => exact rfl); k_whole; refine eps3 (ne3 ne_heap ne_nat ne_heap) ((?_ : ∀ a b c, At3 _ a b c) _ _ _); intros g' L' h'; refine At3.mk ?_; intros FG' F' N' B' X' T' kG'; (try dsimp only); (try k_fold))
  k_steps
  exact hret _ _ _ (fun b o e hb => Fr.keep (by with_reducible assumption) b o (kG' b o e hb)) rfl
end Mine
-- Val
namespace Mine
noncomputable abbrev poly (r0 r1 r2 r3 x : Int) : Int := (((0 * x + r3) * x + r2) * x + r1) * x + r0
theorem cl_value : ∀ (l : Addr) (r0 r1 r2 r3 x : Int) (t0 t1 t2 t3 tx : Tok) (hy : -(2 ^ 63) < x ∧ x < 2 ^ 63), Cl 2 334 [.ref l, .int x tx] [] [] (fun h => h.IsList l [Value.int r0 t0, .int r1 t1, .int r2 t2, .int r3 t3].toArray) (IntIs (poly r0 r1 r2 r3 x)) := by
  refine eps8 (ne8 ne_nat ne_int ne_int ne_int ne_int ne_int ne_nat ne_nat) ((?_ : ∀ a0 a1 a2 a3 a4 a5 a6 a7, At8 _ a0 a1 a2 a3 a4 a5 a6 a7) _ _ _ _ _ _ _ _)
  intros l r0 r1 r2 r3 x t0 t1
  refine At8.mk ?_
  refine eps3 (ne3 ne_nat ne_nat ne_nat) ((?_ : ∀ a0 a1 a2, At3 _ a0 a1 a2) _ _ _)
  intros t2 t3 tx
  refine At3.mk ?_
  intros hy
  k_with_none
  k_with "kne" => (refine neN ?_; (try dsimp only); first | exact Nat.ne_of_gt (by with_reducible assumption) | exact Nat.ne_of_lt (by with_reducible assumption) | with_reducible assumption | exact Ne.symm (by with_reducible assumption) | exact Nat.succ_ne_self _ | exact Ne.symm (Nat.succ_ne_self _) | (apply Nat.ne_of_gt; apply And.left; k_extra "krn"; done) | (apply Nat.ne_of_lt; apply And.left; k_extra "krn"; done) | (apply Nat.ne_of_gt; k_extra "krn"; done) | (apply Nat.ne_of_lt; k_extra "krn"; done) | k_extra "kd4" | (apply Ne.symm; k_extra "kd4") | omega)
  k_with "kd1" => first | with_reducible assumption | (apply And.left; with_reducible assumption) | (apply And.right; with_reducible assumption)
  k_with "kd2" => first | with_reducible assumption | (apply And.left; k_extra "kd1") | (apply And.right; k_extra "kd1")
  k_with "kd3" => first | with_reducible assumption | (apply And.left; k_extra "kd2") | (apply And.right; k_extra "kd2")
  k_with "kd4" => first | with_reducible assumption | (apply And.left; k_extra "kd3") | (apply And.right; k_extra "kd3")
  k_with "krn" => ((iterate 19 (first | done | with_reducible assumption | apply And.right)); done)
  k_with "omg" => first | exact Mine.room2 (by with_reducible assumption) rfl | exact Mine.units2 (by with_reducible assumption) cLine_is rfl | ((repeat (rename @Ne Nat _ _ => z9w; clear z9w)); (repeat (rename @Ne Nat _ _ ∧ _ => z9w; clear z9w)); (repeat (rename (@Ne Nat _ _ ∧ _) ∧ _ => z9w; clear z9w)); omega +splitDisjunctions)
  k_with "call ref" => ((with_reducible show wpAny _ _ (PySem.call (Value.ref 52) [Value.int _ _, Value.int _ _] []) _ _ _); k_dflt (refine' cl_pure (cl_add _ _ _ _) ?k1 ?k2 ?k3 ?k4 ?k5 ?k6 ?kp ?kd ?ku ?_; (case k1 => k_asm); (case k2 => k_asm); (case k3 => k_asm); (case k4 => k_asm); (case k5 => first | exact rfl | assumption); (case k6 => k_asm); (case kp => trivial); (case kd => ktr_room); (case ku => ktr_units); intro v9w h9w tk9w F9w N9w hp9w; (obtain ⟨t9w, hp9w⟩ := hp9w; subst hp9w); (try dsimp only); (try k_fold)); walk_say "CONTRACT")
  k_with "call ref" => ((with_reducible show wpAny _ _ (PySem.call (Value.ref 66) [Value.int _ _, Value.int _ _] []) _ _ _); k_dflt (refine' cl_pure (cl_mul _ _ _ _ (by assumption)) ?k1 ?k2 ?k3 ?k4 ?k5 ?k6 ?kp ?kd ?ku ?_; (case k1 => k_asm); (case k2 => k_asm); (case k3 => k_asm); (case k4 => k_asm); (case k5 => first | exact rfl | assumption); (case k6 => k_asm); (case kp => trivial); (case kd => ktr_room); (case ku => ktr_units); intro v9w h9w tk9w F9w N9w hp9w; (obtain ⟨t9w, hp9w⟩ := hp9w; subst hp9w); (try dsimp only); (try k_fold)); walk_say "CONTRACT")
  k_with "exec For" => (k_here; (with_reducible show wpAny _ _ (exec (Stmt.For (Expr.Name _ _) _ _ [] _) _) _ _ _); (rename Fr _ _ _ _ => lF'w); (with_unfolding_all refine' For_invVF lF'w ?k1 ?k2 ?_; (case k1 => exact rfl); (case k2 => exact rfl); k_whole))
  w_top off
  unfold Cl
  k_fill
  refine eps23 ne_cx ((?_ : ∀ w p loose mean mg mb dp un gd cn cs a ccd cl outer A₀ base h₀ L m s Q E, At23 _ w p loose mean mg mb dp un gd cn cs a ccd cl outer A₀ base h₀ L m s Q E) _ _ _ _ _ _ _ _ _ _ _ _ _ _ _ _ _ _ _ _ _ _ _)
  intros w p loose mean mg mb dp un gd cn cs a ccd cl outer A₀ base h₀ L m s Q E
  refine At23.mk ?_
  intros B F X T hk N hpre hd hu hret
  k_dflt (refine' code_defG ?k1 ?k2 ?k3 ?k4 ?k5 ?kA ?kF ?kK ?k6 ?k7 ?k8 ?k9 ?kB ?_ ?c2 ?c3 ?c4 ?c5; (case kA => exact rfl); (case kF => exact rfl); (case kK => assumption); (case k1 => k_asm); (case k2 => k_asm); (case k3 => k_asm); (case k4 => k_asm); (case k5 => k_asm); (case k6 => k_is); (case k7 => k_is); (case k8 => ktr_room); (case k9 => first | exact BindsTo.of_eq rfl | exact binds_K (by k_in) rfl (by k_is) rfl rfl rfl); (case c5 => decide); (case kB => exact locs rfl); (case c2 => exact rfl); (case c3 => exact rfl); (case c4 => exact rfl); k_whole; refine eps3 (ne3 ne_heap ne_nat ne_heap) ((?_ : ∀ a b c, At3 _ a b c) _ _ _); intros g' L' h'; refine At3.mk ?_; intros FG' F' N' B' X' T' kG'; (try dsimp only); (try k_fold))
  have hl9 : g'.IsList l [Value.int r0 t0, .int r1 t1, .int r2 t2, .int r3 t3].toArray := hpre.at fun o e => kG' _ o e (by simp)
  k_steps
  exact hret _ _ _ (fun b o e hb => Fr.keep (by with_reducible assumption) b o (kG' b o e hb)) ⟨_, rfl⟩
end Mine
-- Num
namespace Mine
/-- a word's number, from its signs' codes -/
noncomputable abbrev numOf (l : List Int) : Int := l.foldl (fun a c => 16 * a + c - 65) 0
theorem numOf_snoc (l : List Int) (n : Int) : numOf (l ++ [n]) = 16 * numOf l + n - 65 := by simp [numOf, List.foldl_append]
theorem cl_number : ∀ (x : Str) (tx : Tok), Cl 1 308 [.str x tx] [] [] (fun _ => True) (IntIs (numOf (KStt.codes x))) := by
  refine eps2 (ne2 ne_str ne_nat) ((?_ : ∀ a0 a1, At2 _ a0 a1) _ _)
  intros x tx
  refine At2.mk ?_
  k_with_none
  k_with "kne" => (refine neN ?_; (try dsimp only); first | exact Nat.ne_of_gt (by with_reducible assumption) | exact Nat.ne_of_lt (by with_reducible assumption) | with_reducible assumption | exact Ne.symm (by with_reducible assumption) | exact Nat.succ_ne_self _ | exact Ne.symm (Nat.succ_ne_self _) | (apply Nat.ne_of_gt; apply And.left; k_extra "krn"; done) | (apply Nat.ne_of_lt; apply And.left; k_extra "krn"; done) | (apply Nat.ne_of_gt; k_extra "krn"; done) | (apply Nat.ne_of_lt; k_extra "krn"; done) | k_extra "kd4" | (apply Ne.symm; k_extra "kd4") | omega)
  k_with "kd1" => first | with_reducible assumption | (apply And.left; with_reducible assumption) | (apply And.right; with_reducible assumption)
  k_with "kd2" => first | with_reducible assumption | (apply And.left; k_extra "kd1") | (apply And.right; k_extra "kd1")
  k_with "kd3" => first | with_reducible assumption | (apply And.left; k_extra "kd2") | (apply And.right; k_extra "kd2")
  k_with "kd4" => first | with_reducible assumption | (apply And.left; k_extra "kd3") | (apply And.right; k_extra "kd3")
  k_with "krn" => ((iterate 19 (first | done | with_reducible assumption | apply And.right)); done)
  k_with "omg" => first | exact Mine.room2 (by with_reducible assumption) rfl | exact Mine.units2 (by with_reducible assumption) cLine_is rfl | ((repeat (rename @Ne Nat _ _ => z9w; clear z9w)); (repeat (rename @Ne Nat _ _ ∧ _ => z9w; clear z9w)); (repeat (rename (@Ne Nat _ _ ∧ _) ∧ _ => z9w; clear z9w)); omega +splitDisjunctions)
  k_with "exec For" => (k_here; (with_reducible show wpAny _ _ (exec (Stmt.For (Expr.Name _ _) _ _ [] _) _) _ _ _); (rename Fr _ _ _ _ => lF'w); (with_unfolding_all refine' For_invVF lF'w ?k1 ?k2 ?_; (case k1 => exact rfl); (case k2 => exact rfl); k_whole))
  w_top off
  unfold Cl
  k_fill
  refine eps23 ne_cx ((?_ : ∀ w p loose mean mg mb dp un gd cn cs a ccd cl outer A₀ base h₀ L m s Q E, At23 _ w p loose mean mg mb dp un gd cn cs a ccd cl outer A₀ base h₀ L m s Q E) _ _ _ _ _ _ _ _ _ _ _ _ _ _ _ _ _ _ _ _ _ _ _)
  intros w p loose mean mg mb dp un gd cn cs a ccd cl outer A₀ base h₀ L m s Q E
  refine At23.mk ?_
  intros B F X T hk N hpre hd hu hret
  k_dflt (refine' code_defG ?k1 ?k2 ?k3 ?k4 ?k5 ?kA ?kF ?kK ?k6 ?k7 ?k8 ?k9 ?kB ?_ ?c2 ?c3 ?c4 ?c5; (case kA => exact rfl); (case kF => exact rfl); (case kK => assumption); (case k1 => k_asm); (case k2 => k_asm); (case k3 => k_asm); (case k4 => k_asm); (case k5 => k_asm); (case k6 => k_is); (case k7 => k_is); (case k8 => ktr_room); (case k9 => first | exact BindsTo.of_eq rfl | exact binds_K (by k_in) rfl (by k_is) rfl rfl rfl); (case c5 => decide); (case kB => exact locs rfl); (case c2 => exact rfl); (case c3 => exact rfl); (case c4 => exact rfl); k_whole; refine eps3 (ne3 ne_heap ne_nat ne_heap) ((?_ : ∀ a b c, At3 _ a b c) _ _ _); intros g' L' h'; refine At3.mk ?_; intros FG' F' N' B' X' T' kG'; (try dsimp only); (try k_fold))
  k_with "pyIter str" => k_state (fun pre number => number = numOf pre) "number"
  k_with "state" => (first | rfl | (rw [numOf_snoc]; omega))
  k_steps
  subst_vars
  exact hret _ _ _ (fun b o e hb => Fr.keep (by with_reducible assumption) b o (kG' b o e hb)) ⟨_, rfl⟩
end Mine
-- Ap
namespace Mine
/-- figures to the base 16, the greatest first -/
noncomputable def valD (ds : List Int) : Int := ds.foldl (fun a d => 16 * a + d) 0
theorem valD_snoc (ds : List Int) (d : Int) : valD (ds ++ [d]) = 16 * valD ds + d := by simp [valD, List.foldl_append]
noncomputable def FigsOk (ds : List Int) : Prop := ∀ d ∈ ds, 0 ≤ d ∧ d < 16
noncomputable def bytesOf (ds : List Int) : Array UInt8 := (ds.map fun d => (65 + d.toNat).toUInt8).toArray
theorem snoc_of {α : Type} : ∀ {l : List α}, l ≠ [] → ∃ q d, l = q ++ [d] := fun {l} h => ⟨l.dropLast, l.getLast h, (List.dropLast_concat_getLast h).symm⟩
theorem valD_nonneg : ∀ (n : Nat) (ds : List Int), ds.length = n → FigsOk ds → 0 ≤ valD ds
  | 0, ds, h, _ => by rw [List.eq_nil_of_length_eq_zero h]; decide
  | n + 1, ds, h, ok => by
    obtain ⟨q, d, rfl⟩ := snoc_of (l := ds) (by intro e; rw [e] at h; cases h)
    rw [valD_snoc]
    have := valD_nonneg n q (by simpa using h) fun x hx => ok x (by simp [hx])
    have := ok d (by simp)
    omega
theorem valD_pos {ds : List Int} (ok : FigsOk ds) (hh : ∀ d r, ds = d :: r → d ≠ 0) (hn : ds ≠ []) : 0 < valD ds := by
  have : ∀ (n : Nat) (q : List Int), q.length = n → ∀ d : Int, 0 < d → FigsOk (d :: q) → 0 < valD (d :: q) := by
    intro n
    induction n with
    | zero => intro q h d hd _; rw [List.eq_nil_of_length_eq_zero h]; simp [valD]; exact hd
    | succ n ih =>
      intro q h d hd ok
      obtain ⟨q, e, rfl⟩ := snoc_of (l := q) (by intro e; rw [e] at h; cases h)
      have e1 : d :: (q ++ [e]) = (d :: q) ++ [e] := rfl
      rw [e1, valD_snoc]
      have := ih q (by simpa using h) d hd fun x hx => ok x (by rw [e1]; exact List.mem_append_left _ hx)
      have := ok e (by simp)
      omega
  cases ds with
  | nil => exact absurd rfl hn
  | cons d q => exact this _ q rfl d (by have := ok d (by simp); have := hh d q rfl; omega) ok
noncomputable abbrev apArr : Array UInt8 := #[65, 66, 67, 68, 69, 70, 71, 72, 73, 74, 75, 76, 77, 78, 79, 80]
theorem ap_pick {d : Int} (h : 0 ≤ d ∧ d < 16) : KBy.picked apArr (some d) (some (d + 1)) = #[(65 + d.toNat).toUInt8] := by
  have all : ∀ n : Fin 16, KBy.picked apArr (some ((n.val : Nat) : Int)) (some (((n.val : Nat) : Int) + 1)) = #[(65 + n.val).toUInt8] := by decide +kernel
  have := all ⟨d.toNat, by omega⟩
  rw [show ((d.toNat : Nat) : Int) = d by omega] at this
  exact this
theorem bytesOf_ints {ds : List Int} (ok : FigsOk ds) : KBw.bInts (bytesOf ds) = ds.map fun d => 65 + d := by
  unfold KBw.bInts bytesOf
  simp only [List.map_map]
  refine List.map_congr_left fun d hd => ?_
  have := ok d hd
  have all : ∀ n : Fin 16, ((65 + n.val).toUInt8.toNat : Int) = 65 + (n.val : Int) := by decide
  have e := all ⟨d.toNat, by omega⟩
  simp only [Function.comp]
  rw [e]
  show 65 + ((d.toNat : Nat) : Int) = 65 + d
  omega
theorem ap_start {ds : List Int} (ok : FigsOk ds) : (0 ≤ if valD ds < 0 then -valD ds else valD ds) ∧ ∃ pre post, ds = pre ++ post ∧ (if valD ds < 0 then -valD ds else valD ds) = valD pre ∧ #[] = bytesOf post := by
  have h := valD_nonneg _ ds rfl ok
  rw [if_neg (by omega)]
  exact ⟨h, ds, [], by simp, rfl, rfl⟩
theorem ap_step {ds pre post : List Int} (ok : FigsOk ds) (e : ds = pre ++ post) (h0 : valD pre ≠ 0) :
    0 ≤ Int.fdiv (valD pre) 16 ∧ ∃ pre' post', ds = pre' ++ post' ∧ Int.fdiv (valD pre) 16 = valD pre' ∧ KBy.picked apArr (some (Int.fmod (valD pre) 16)) (some (Int.fmod (valD pre) 16 + 1)) ++ bytesOf post = bytesOf post' := by
  obtain ⟨q, d, rfl⟩ := snoc_of (l := pre) (by intro e; subst e; exact h0 rfl)
  have hd : 0 ≤ d ∧ d < 16 := ok d (by rw [e]; simp)
  have hq : 0 ≤ valD q := valD_nonneg _ q rfl fun x hx => ok x (by rw [e]; simp [hx])
  have h1 : Int.fdiv (valD (q ++ [d])) 16 = valD q := by rw [valD_snoc, Int.fdiv_eq_ediv_of_nonneg _ (by decide)]; omega
  have h2 : Int.fmod (valD (q ++ [d])) 16 = d := by rw [valD_snoc, Int.fmod_eq_emod_of_nonneg _ (by decide)]; omega
  rw [h1, h2, ap_pick hd]
  exact ⟨hq, q, d :: post, by rw [e]; simp, rfl, by simp [bytesOf]⟩
theorem ap_less {n : Int} (h : 0 ≤ n) (h0 : n ≠ 0) : (Int.fdiv n 16).toNat < n.toNat := by
  rw [Int.fdiv_eq_ediv_of_nonneg _ (by decide)]; omega
theorem ap_done {ds pre post : List Int} (ok : FigsOk ds) (hh : ∀ d r, ds = d :: r → d ≠ 0) (e : ds = pre ++ post) (h0 : valD pre = 0) : post = ds := by
  cases pre with
  | nil => exact e.symm
  | cons d r =>
    have := valD_pos (ds := d :: r) (fun x hx => ok x (by rw [e]; exact List.mem_append_left _ hx)) (fun d' r' e' => by cases e'; exact hh d (r ++ post) (by rw [e]; rfl)) (by simp)
    omega
theorem cl_ap : ∀ (ds : List Int) (hds : FigsOk ds) (hh : ∀ d r, ds = d :: r → d ≠ 0) (tx : Tok) (hl : ds.length ≤ 12), Cl 1 80 [.int (valD ds) tx] [] [] (fun _ => True) (fun v _ _ => ∃ t, v = .bytes (bytesOf ds) t) := by
  refine eps_all (⟨[]⟩) ((?_ : ∀ a, AtE _ a) _)
  intros ds
  refine AtE.mk ?_
  intros hds
  intros hh
  refine eps_all (ne_nat) ((?_ : ∀ a, AtE _ a) _)
  intros tx
  refine AtE.mk ?_
  intros hl
  k_with_none
  k_with "kne" => (refine neN ?_; (try dsimp only); first | exact Nat.ne_of_gt (by with_reducible assumption) | exact Nat.ne_of_lt (by with_reducible assumption) | with_reducible assumption | exact Ne.symm (by with_reducible assumption) | exact Nat.succ_ne_self _ | exact Ne.symm (Nat.succ_ne_self _) | (apply Nat.ne_of_gt; apply And.left; k_extra "krn"; done) | (apply Nat.ne_of_lt; apply And.left; k_extra "krn"; done) | (apply Nat.ne_of_gt; k_extra "krn"; done) | (apply Nat.ne_of_lt; k_extra "krn"; done) | k_extra "kd4" | (apply Ne.symm; k_extra "kd4") | omega)
  k_with "kd1" => first | with_reducible assumption | (apply And.left; with_reducible assumption) | (apply And.right; with_reducible assumption)
  k_with "kd2" => first | with_reducible assumption | (apply And.left; k_extra "kd1") | (apply And.right; k_extra "kd1")
  k_with "kd3" => first | with_reducible assumption | (apply And.left; k_extra "kd2") | (apply And.right; k_extra "kd2")
  k_with "kd4" => first | with_reducible assumption | (apply And.left; k_extra "kd3") | (apply And.right; k_extra "kd3")
  k_with "krn" => ((iterate 19 (first | done | with_reducible assumption | apply And.right)); done)
  k_with "omg" => first | exact Mine.room2 (by with_reducible assumption) rfl | exact Mine.units2 (by with_reducible assumption) cLine_is rfl | ((repeat (rename @Ne Nat _ _ => z9w; clear z9w)); (repeat (rename @Ne Nat _ _ ∧ _ => z9w; clear z9w)); (repeat (rename (@Ne Nat _ _ ∧ _) ∧ _ => z9w; clear z9w)); omega +splitDisjunctions)
  k_with "exec While" => ((with_reducible show wpAny _ _ (exec (Stmt.While _ _ _ _) _) _ _ _); refine Hold.of ?_; walk_say "BREAK")
  w_top off
  unfold Cl
  k_fill
  refine eps23 ne_cx ((?_ : ∀ w p loose mean mg mb dp un gd cn cs a ccd cl outer A₀ base h₀ L m s Q E, At23 _ w p loose mean mg mb dp un gd cn cs a ccd cl outer A₀ base h₀ L m s Q E) _ _ _ _ _ _ _ _ _ _ _ _ _ _ _ _ _ _ _ _ _ _ _)
  intros w p loose mean mg mb dp un gd cn cs a ccd cl outer A₀ base h₀ L m s Q E
  refine At23.mk ?_
  intros B F X T hk N hpre hd hu hret
  k_dflt (refine' code_defG ?k1 ?k2 ?k3 ?k4 ?k5 ?kA ?kF ?kK ?k6 ?k7 ?k8 ?k9 ?kB ?_ ?c2 ?c3 ?c4 ?c5; (case kA => exact rfl); (case kF => exact rfl); (case kK => assumption); (case k1 => k_asm); (case k2 => k_asm); (case k3 => k_asm); (case k4 => k_asm); (case k5 => k_asm); (case k6 => k_is); (case k7 => k_is); (case k8 => ktr_room); (case k9 => first | exact BindsTo.of_eq rfl | exact binds_K (by k_in) rfl (by k_is) rfl rfl rfl); (case c5 => decide); (case kB => exact locs rfl); (case c2 => exact rfl); (case c3 => exact rfl); (case c4 => exact rfl); k_whole; refine eps3 (ne3 ne_heap ne_nat ne_heap) ((?_ : ∀ a b c, At3 _ a b c) _ _ _); intros g' L' h'; refine At3.mk ?_; intros FG' F' N' B' X' T' kG'; (try dsimp only); (try k_fold))
  k_steps
  refine Hold.on ?_
  have hap : KBw.bInts apArr = [65, 66, 67, 68, 69, 70, 71, 72, 73, 74, 75, 76, 77, 78, 79, 80] := by rfl
  k_with "state" => first | exact ap_start (by assumption) | exact ap_step (by assumption) (by assumption) (by assumption)
  k_with "measure" => exact ap_less (by assumption) (by assumption)
  k_while (fun _ num val => 0 ≤ num ∧ ∃ pre post, ds = pre ++ post ∧ num = valD pre ∧ val = bytesOf post) (fun _ num _ => num.toNat) "num" "val"
  (rename ∃ _ _, _ => hP); obtain ⟨pre, post, hds', hnum, hval⟩ := hP; subst hnum; subst hval
  have hb := bytesOf_ints (ds := post) fun x hx => hds x (by rw [hds']; simp [hx])
  have hpl : post.length ≤ 12 := by rw [hds', List.length_append] at hl; omega
  k_steps
  have e9 := ap_done hds hh hds' (by assumption)
  subst e9
  exact hret _ _ _ (fun b o e hb => Fr.keep (by with_reducible assumption) b o (kG' b o e hb)) ⟨_, rfl⟩
end Mine
-- Dec
namespace Mine
open Builtin Builtin._codecs
theorem dec_at (b : Array UInt8) (k : Nat) (hk : k < b.size) (hb : ∀ c ∈ b.toList, c.toNat < 128) : (_codecs.utf8Decoder).find true b k = Found.text [b[k].toNat] (k + 1) := by
  have h1 : b.getD k 0 = b[k] := by simp [Array.getD, hk]
  have h2 : (b[k]).toNat < 0x80 := hb _ (by simp)
  have h3 : Bytes.utf8At b k = (.char (b[k]).toNat, k + 1) := by
    unfold Bytes.utf8At
    simp only [h1, h2, if_true]
  unfold _codecs.utf8Decoder
  simp only [h3]
  rfl
theorem dec_loop (b : Array UInt8) (hs : b.size ≤ 1000) (f : Nat → Nat × Array Nat × Faults → Sem (ForInStep (Nat × Array Nat × Faults)))
    (hf : ∀ x k (out : Array Nat) st (hk : k < b.size), out.size ≤ 1000 → f x (k, out, st) = pure (.yield (k + 1, out ++ [b[k].toNat].toArray, st))) :
    ∀ (n i k : Nat) (out : Array Nat) (st : Faults), k + n = b.size → out.size = k → out.toList = (b.toList.take k).map (·.toNat) →
      forIn (List.range' i n) (k, out, st) f = (pure (b.size, b.map (·.toNat), st) : Sem _)
  | 0, i, k, out, st, h, ho, he => by
    simp only [List.range'_zero, List.forIn_nil]
    have hk : k = b.size := by omega
    subst hk
    have : out = b.map (·.toNat) := by
      apply Array.ext'
      rw [he, Array.toList_map, ← Array.length_toList, List.take_length]
    rw [this]
  | n + 1, i, k, out, st, h, ho, he => by
    have hk : k < b.size := by omega
    rw [List.range'_succ, List.forIn_cons, hf _ _ _ _ hk (by omega)]
    have e1 := dec_loop b hs f hf n (i + 1) (k + 1) (out ++ [b[k].toNat].toArray) st (by omega) (by simp [ho]) (by
      rw [Array.toList_append, he, List.take_add_one]
      simp [hk])
    exact e1
theorem dec_run (id : String) (b : Array UInt8) (hb : ∀ c ∈ b.toList, c.toNat < 128) (hs : b.size ≤ 1000) :
    _codecs.runDecoder id _codecs.utf8Decoder none true b 0 [] = pure ((b.map (·.toNat)), b.size) := by
  unfold _codecs.runDecoder
  simp only [Std.Legacy.Range.forIn_eq_forIn_range', Std.Legacy.Range.size]
  rw [dec_loop b hs _ ?_ _ _ 0 #[] _ (by omega) rfl rfl]
  · rfl
  · intro x k out st hk ho
    rw [if_neg (by show ¬ (out.size > sizeLine); rw [sizeLine_eq]; omega), if_neg (by simp; omega)]
    simp only [dec_at b k hk hb]

theorem dec_entry0 (t : Tok) : «bytes.decode» ⟨[.bytes #[] t], []⟩ = (rule "bytes.decode.empty" >>= fun _ => retStr Str.empty) := by kernel_rfl
theorem dec_meets0 (t : Tok) : Meets («bytes.decode» ⟨[.bytes #[] t], []⟩) (fun _ R s => ∀ t' k, R (.ok (.ret (.str ⟨#[]⟩ t'))) { s with toks := k }) := by
  refine .of_wp fun prog w A R s hS => ?_
  rw [dec_entry0]
  exact wpAny_bind (wpAny_rule (wpAny_bind (wpAny_mkStr (wpAny_pure ⟨_, rfl, hS _ _⟩) (by decide))))
theorem decode_any {prog : Program} {w : World} {A : Around} {E : Value → Shared → Prop} {s : Shared} {b : Array UInt8} {t : Tok} {Q : Value → Shared → Prop}
    (hb : ∀ c ∈ b.toList, c.toNat < 128) (hs : b.size ≤ 1000) (h : ∀ t' k, Q (.str ⟨b.map (·.toNat)⟩ t') { s with toks := k }) :
    wpAny (model prog w) A (call (.builtin "bytes.decode") [.bytes b t]) Q E s := by
  obtain ⟨l⟩ := b
  cases l with
  | nil => exact call_meets FB.slot_bytes_decode (typeIs_bytes _ _ _) FB.entry_bytes_decode (FB.args_bytes_decode_1 _) (dec_meets0 t) (fun t' k => by have q := h t' k; rw [show Array.map (fun (x : UInt8) => x.toNat) ⟨[]⟩ = #[] from by simp] at q; exact q)
  | cons c cs =>
    refine KBd.decode (x := ⟨Array.map (fun x => x.toNat) (c :: cs).toArray⟩) (fun id => dec_run id _ hb hs) ?_ h
    show (Array.map (fun x => x.toNat) (c :: cs).toArray).size ≤ 16777216
    rw [Array.size_map]; exact Nat.le_trans hs (by decide)
/-- a text of letters A to P -/
noncomputable def lett (ds : List Int) : Str := ⟨(ds.map fun d => 65 + d.toNat).toArray⟩
theorem bytesOf_text {ds : List Int} (ok : FigsOk ds) : (⟨(bytesOf ds).map (·.toNat)⟩ : Str) = lett ds := by
  unfold bytesOf lett
  congr 1
  apply Array.ext'
  simp only [Array.toList_map, List.map_map]
  refine List.map_congr_left fun d hd => ?_
  have := ok d hd
  have all : ∀ n : Fin 16, (65 + n.val).toUInt8.toNat = 65 + n.val := by decide
  exact all ⟨d.toNat, by omega⟩
theorem bytesOf_ascii {ds : List Int} (ok : FigsOk ds) : ∀ c ∈ (bytesOf ds).toList, c.toNat < 128 := by
  intro c hc
  unfold bytesOf at hc
  obtain ⟨d, hd, rfl⟩ := List.mem_map.mp (by simpa using hc)
  have := ok d hd
  have all : ∀ n : Fin 16, (65 + n.val).toUInt8.toNat < 128 := by decide
  have q := all ⟨d.toNat, by omega⟩
  exact (by simpa using q)
theorem decode_ap {prog : Program} {w : World} {A : Around} {E : Value → Shared → Prop} {s : Shared} {ds : List Int} {t : Tok} {Q : Value → Shared → Prop}
    (ok : FigsOk ds) (hs : ds.length ≤ 12) (h : ∀ t' k, Q (.str (lett ds) t') { s with toks := k }) :
    wpAny (model prog w) A (call (.builtin "bytes.decode") [.bytes (bytesOf ds) t]) Q E s :=
  decode_any (bytesOf_ascii ok) (by unfold bytesOf; simp; omega) (by rw [bytesOf_text ok]; exact h)
end Mine
-- Sgn
namespace Mine
noncomputable def sgnOf (x : Str) : Int := if (Txt.slice x none (some 1) == Str.ofString "-") = true then -(numOf (KStt.codes (Txt.slice x (some 1) none))) else numOf (KStt.codes x)
theorem cl_signed : ∀ (x : Str) (tx : Tok) (hx : x.length < 1000), Cl 2 315 [.str x tx] [] [] (fun _ => True) (IntIs (sgnOf x)) := by
  refine eps2 (ne2 ne_str ne_nat) ((?_ : ∀ a0 a1, At2 _ a0 a1) _ _)
  intros x tx
  refine At2.mk ?_
  intros hx
  k_with_none
  k_with "kne" => (refine neN ?_; (try dsimp only); first | exact Nat.ne_of_gt (by with_reducible assumption) | exact Nat.ne_of_lt (by with_reducible assumption) | with_reducible assumption | exact Ne.symm (by with_reducible assumption) | exact Nat.succ_ne_self _ | exact Ne.symm (Nat.succ_ne_self _) | (apply Nat.ne_of_gt; apply And.left; k_extra "krn"; done) | (apply Nat.ne_of_lt; apply And.left; k_extra "krn"; done) | (apply Nat.ne_of_gt; k_extra "krn"; done) | (apply Nat.ne_of_lt; k_extra "krn"; done) | k_extra "kd4" | (apply Ne.symm; k_extra "kd4") | omega)
  k_with "kd1" => first | with_reducible assumption | (apply And.left; with_reducible assumption) | (apply And.right; with_reducible assumption)
  k_with "kd2" => first | with_reducible assumption | (apply And.left; k_extra "kd1") | (apply And.right; k_extra "kd1")
  k_with "kd3" => first | with_reducible assumption | (apply And.left; k_extra "kd2") | (apply And.right; k_extra "kd2")
  k_with "kd4" => first | with_reducible assumption | (apply And.left; k_extra "kd3") | (apply And.right; k_extra "kd3")
  k_with "krn" => ((iterate 19 (first | done | with_reducible assumption | apply And.right)); done)
  k_with "omg" => first | exact Mine.room2 (by with_reducible assumption) rfl | exact Mine.units2 (by with_reducible assumption) cLine_is rfl | ((repeat (rename @Ne Nat _ _ => z9w; clear z9w)); (repeat (rename @Ne Nat _ _ ∧ _ => z9w; clear z9w)); (repeat (rename (@Ne Nat _ _ ∧ _) ∧ _ => z9w; clear z9w)); omega +splitDisjunctions)
  k_with "call ref" => ((with_reducible show wpAny _ _ (PySem.call (Value.ref 308) [Value.str _ _] []) _ _ _); k_dflt (refine' cl_pure (cl_number _ _) ?k1 ?k2 ?k3 ?k4 ?k5 ?k6 ?kp ?kd ?ku ?_; (case k1 => k_asm); (case k2 => k_asm); (case k3 => k_asm); (case k4 => k_asm); (case k5 => first | exact rfl | assumption); (case k6 => k_asm); (case kp => trivial); (case kd => ktr_room); (case ku => ktr_units); intro v9w h9w tk9w F9w N9w hp9w; (obtain ⟨t9w, hp9w⟩ := hp9w; subst hp9w); (try dsimp only); (try k_fold)); walk_say "CONTRACT")
  k_with "call ref" => ((with_reducible show wpAny _ _ (PySem.call (Value.ref 73) [Value.int _ _] []) _ _ _); k_dflt (refine' cl_pure (cl_neg _ _) ?k1 ?k2 ?k3 ?k4 ?k5 ?k6 ?kp ?kd ?ku ?_; (case k1 => k_asm); (case k2 => k_asm); (case k3 => k_asm); (case k4 => k_asm); (case k5 => first | exact rfl | assumption); (case k6 => k_asm); (case kp => trivial); (case kd => ktr_room); (case ku => ktr_units); intro v9w h9w tk9w F9w N9w hp9w; (obtain ⟨t9w, hp9w⟩ := hp9w; subst hp9w); (try dsimp only); (try k_fold)); walk_say "CONTRACT")
  w_top off
  unfold Cl
  k_fill
  refine eps23 ne_cx ((?_ : ∀ w p loose mean mg mb dp un gd cn cs a ccd cl outer A₀ base h₀ L m s Q E, At23 _ w p loose mean mg mb dp un gd cn cs a ccd cl outer A₀ base h₀ L m s Q E) _ _ _ _ _ _ _ _ _ _ _ _ _ _ _ _ _ _ _ _ _ _ _)
  intros w p loose mean mg mb dp un gd cn cs a ccd cl outer A₀ base h₀ L m s Q E
  refine At23.mk ?_
  intros B F X T hk N hpre hd hu hret
  k_dflt (refine' code_defG ?k1 ?k2 ?k3 ?k4 ?k5 ?kA ?kF ?kK ?k6 ?k7 ?k8 ?k9 ?kB ?_ ?c2 ?c3 ?c4 ?c5; (case kA => exact rfl); (case kF => exact rfl); (case kK => assumption); (case k1 => k_asm); (case k2 => k_asm); (case k3 => k_asm); (case k4 => k_asm); (case k5 => k_asm); (case k6 => k_is); (case k7 => k_is); (case k8 => ktr_room); (case k9 => first | exact BindsTo.of_eq rfl | exact binds_K (by k_in) rfl (by k_is) rfl rfl rfl); (case c5 => decide); (case kB => exact locs rfl); (case c2 => exact rfl); (case c3 => exact rfl); (case c4 => exact rfl); k_whole; refine eps3 (ne3 ne_heap ne_nat ne_heap) ((?_ : ∀ a b c, At3 _ a b c) _ _ _); intros g' L' h'; refine At3.mk ?_; intros FG' F' N' B' X' T' kG'; (try dsimp only); (try k_fold))
  k_steps
  · (rename (Txt.slice x none (some 1) == Str.ofString "-") = true => hc)
    exact hret _ _ _ (fun b o e hb => Fr.keep (by with_reducible assumption) b o (kG' b o e hb)) ⟨_, by rw [sgnOf, if_pos hc]⟩
  · (rename (Txt.slice x none (some 1) == Str.ofString "-") = false => hc)
    exact hret _ _ _ (fun b o e hb => Fr.keep (by with_reducible assumption) b o (kG' b o e hb)) ⟨_, by rw [sgnOf, if_neg (by rw [hc]; decide)]⟩
end Mine
-- Hgt
namespace Mine
theorem pow_ne {q : Int} (h : 0 < q) (k : Nat) : q ^ k ≠ 0 := Int.ne_of_gt (Int.pow_pos h)
theorem len_snoc_le {l : List Int} {k : Int} {n : Nat} (h : l.length + 1 ≤ n) : (l ++ [k]).length ≤ n := by simpa using h
theorem cl_height : ∀ (n q : Int) (h : Nat) (tn tq : Tok) (hh : h ≤ 8) (hq : 2 ≤ q ∧ q ≤ 5) (hdiv : ∀ k : Nat, k ≤ 8 → (Int.fmod n (q ^ (k + 1)) = 0 ↔ k + 1 ≤ h)), Cl 2 322 [.int n tn, .int q tq] [] [] (fun _ => True) (IntIs (h : Int)) := by
  refine eps4 (ne4 ne_int ne_int ne_nat ne_nat) ((?_ : ∀ a0 a1 a2 a3, At4 _ a0 a1 a2 a3) _ _ _ _)
  intros n q h tn
  refine At4.mk ?_
  refine eps_all (ne_nat) ((?_ : ∀ a, AtE _ a) _)
  intros tq
  refine AtE.mk ?_
  intros hh
  intros hq
  intros hdiv
  k_with_none
  k_with "kne" => (refine neN ?_; (try dsimp only); first | exact Nat.ne_of_gt (by with_reducible assumption) | exact Nat.ne_of_lt (by with_reducible assumption) | with_reducible assumption | exact Ne.symm (by with_reducible assumption) | exact Nat.succ_ne_self _ | exact Ne.symm (Nat.succ_ne_self _) | (apply Nat.ne_of_gt; apply And.left; k_extra "krn"; done) | (apply Nat.ne_of_lt; apply And.left; k_extra "krn"; done) | (apply Nat.ne_of_gt; k_extra "krn"; done) | (apply Nat.ne_of_lt; k_extra "krn"; done) | k_extra "kd4" | (apply Ne.symm; k_extra "kd4") | omega)
  k_with "kd1" => first | with_reducible assumption | (apply And.left; with_reducible assumption) | (apply And.right; with_reducible assumption)
  k_with "kd2" => first | with_reducible assumption | (apply And.left; k_extra "kd1") | (apply And.right; k_extra "kd1")
  k_with "kd3" => first | with_reducible assumption | (apply And.left; k_extra "kd2") | (apply And.right; k_extra "kd2")
  k_with "kd4" => first | with_reducible assumption | (apply And.left; k_extra "kd3") | (apply And.right; k_extra "kd3")
  k_with "krn" => ((iterate 19 (first | done | with_reducible assumption | apply And.right)); done)
  k_with "omg" => first | exact Mine.room2 (by with_reducible assumption) rfl | exact Mine.units2 (by with_reducible assumption) cLine_is rfl | ((repeat (rename @Ne Nat _ _ => z9w; clear z9w)); (repeat (rename @Ne Nat _ _ ∧ _ => z9w; clear z9w)); (repeat (rename (@Ne Nat _ _ ∧ _) ∧ _ => z9w; clear z9w)); omega +splitDisjunctions)
  k_with "exec For" => (k_here; (with_reducible show wpAny _ _ (exec (Stmt.For (Expr.Name _ _) _ _ [] _) _) _ _ _); (rename Fr _ _ _ _ => lF'w); (with_unfolding_all refine' For_invVF lF'w ?k1 ?k2 ?_; (case k1 => exact rfl); (case k2 => exact rfl); k_whole))
  k_with "call ref" => ((with_reducible show wpAny _ _ (PySem.call (Value.ref 59) [Value.int _ _, Value.int _ _] []) _ _ _); k_dflt (refine' cl_pure (cl_mod _ _ _ _ (pow_ne (by omega) _)) ?k1 ?k2 ?k3 ?k4 ?k5 ?k6 ?kp ?kd ?ku ?_; (case k1 => k_asm); (case k2 => k_asm); (case k3 => k_asm); (case k4 => k_asm); (case k5 => first | exact rfl | assumption); (case k6 => k_asm); (case kp => trivial); (case kd => ktr_room); (case ku => ktr_units); intro v9w h9w tk9w F9w N9w hp9w; (obtain ⟨t9w, hp9w⟩ := hp9w; subst hp9w); (try dsimp only); (try k_fold)); walk_say "CONTRACT")
  k_with "pyIter ref" => ((with_reducible show wpAny _ _ (pyIter (Value.ref _)) _ _ _); refine Hold.of ?_; walk_say "BREAK")
  w_top off
  unfold Cl
  k_fill
  refine eps23 ne_cx ((?_ : ∀ w p loose mean mg mb dp un gd cn cs a ccd cl outer A₀ base h₀ L m s Q E, At23 _ w p loose mean mg mb dp un gd cn cs a ccd cl outer A₀ base h₀ L m s Q E) _ _ _ _ _ _ _ _ _ _ _ _ _ _ _ _ _ _ _ _ _ _ _)
  intros w p loose mean mg mb dp un gd cn cs a ccd cl outer A₀ base h₀ L m s Q E
  refine At23.mk ?_
  intros B F X T hk N hpre hd hu hret
  k_dflt (refine' code_defG ?k1 ?k2 ?k3 ?k4 ?k5 ?kA ?kF ?kK ?k6 ?k7 ?k8 ?k9 ?kB ?_ ?c2 ?c3 ?c4 ?c5; (case kA => exact rfl); (case kF => exact rfl); (case kK => assumption); (case k1 => k_asm); (case k2 => k_asm); (case k3 => k_asm); (case k4 => k_asm); (case k5 => k_asm); (case k6 => k_is); (case k7 => k_is); (case k8 => ktr_room); (case k9 => first | exact BindsTo.of_eq rfl | exact binds_K (by k_in) rfl (by k_is) rfl rfl rfl); (case c5 => decide); (case kB => exact locs rfl); (case c2 => exact rfl); (case c3 => exact rfl); (case c4 => exact rfl); k_whole; refine eps3 (ne3 ne_heap ne_nat ne_heap) ((?_ : ∀ a b c, At3 _ a b c) _ _ _); intros g' L' h'; refine At3.mk ?_; intros FG' F' N' B' X' T' kG'; (try dsimp only); (try k_fold))
  k_steps
  refine Hold.on ?_
  k_with "state" => exact len_snoc_le (by omega)
  (rename Fr _ _ _ _ => lF'); (rename News _ _ _ _ => lN'); (rename IsRange _ _ _ _ _ _ _ _ => rgX)
  (with_unfolding_all refine' kst_range (σ := Unit) (fun _ => []) (fun _ => []) (fun _ => True) [] (fun pre _ => pre.length ≤ h) () (by rfl) (by first | exact rgX | assumption) (by first | exact small_one (by omega) (by omega) (by omega) (by omega) | decide) (by first | exact rangeSize_nat _ _ | rfl) lF' ?kn ?kf ?kk ?kp ?_ ?_)
  (case kn => intro p hp; cases hp)
  (case kf => trivial)
  (case kk => intro p hp; cases hp)
  (case kp => exact Nat.zero_le _)
  · clear lF' lN'
    intro c pre k t u hX tkX own hkP hltP hoff hfacts hP kFr kNews
    have kMark := kstMark
    (try dsimp only [kstB] at kFr); (try dsimp only at kNews); (try simp only [List.nil_append] at kNews); (try dsimp only at hP); (try k_fold)
    have e9 : (k + 1).toNat = pre.length + 1 := by omega
    have d9 := hdiv pre.length (by omega)
    rw [← e9] at d9
    k_steps
    · have : k = (h : Int) := by omega
      subst this
      exact hret _ _ _ (fun b o e hb => Fr.keep (by with_reducible assumption) b o (kG' b o e hb)) ⟨_, rfl⟩
  · clear lF' lN'
    intro c u hX tkX hfacts hP kFr kNews
    (try dsimp only [kstB] at kFr); (try dsimp only at kNews); (try simp only [List.nil_append] at kNews); (try dsimp only at hP); (try k_fold)
    exfalso
    rw [rangeKs_length] at hP; omega
end Mine
-- Ovr
namespace Mine
theorem rangeKs_succ (n : Nat) : rangeKs 0 (n + 1) = rangeKs 0 n ++ [(n : Int)] := by simp [rangeKs, List.range_succ]
theorem fold_one (c : Int → Bool) (f : Int) (h1 : c f = true) (h0 : 0 ≤ f) (n : Nat) (h2 : ∀ k : Int, 0 ≤ k → k < n → c k = true → k = f) :
    (rangeKs 0 n).foldl (fun l k => if c k = true then l ++ [k] else l) [] = if f < n then [f] else [] := by
  induction n with
  | zero => rw [if_neg (by omega)]; rfl
  | succ n ih =>
    rw [rangeKs_succ, List.foldl_append, ih fun k a b => h2 k a (by omega)]
    simp only [List.foldl_cons, List.foldl_nil]
    by_cases hf : f < n
    · have hc : ¬ (c n = true) := fun hc => by
        have := h2 n (by omega) (by omega) hc
        omega
      rw [if_pos hf, if_neg hc, if_pos (by omega)]
    · rw [if_neg hf]
      by_cases hn : f = n
      · subst hn; rw [if_pos h1, if_pos (by omega)]; rfl
      · have hc : ¬ (c n = true) := fun hc => hn (h2 n (by omega) (by omega) hc).symm
        rw [if_neg hc, if_neg (by omega)]
theorem over_fold {x y q f : Int} (hf : 0 ≤ f ∧ f < q) (h1 : Int.fmod (f * y - x) q = 0) (h2 : ∀ f', 0 ≤ f' → f' < q → Int.fmod (f' * y - x) q = 0 → f' = f) :
    (rangeKs 0 (q - 0).toNat).foldl (fun l k => if Int.fmod (k * y - x) q = 0 then l ++ [k] else l) [] = [f] := by
  have := fold_one (fun k => decide (Int.fmod (k * y - x) q = 0)) f (by simpa using h1) hf.1 (q - 0).toNat fun k a b c => h2 k a (by omega) (by simpa using c)
  rw [if_pos (by omega)] at this
  simpa using this
theorem ints_one {vs : List Value} {f : Int} (h : IntsAre vs [f]) : ∃ t, vs = [.int f t] := by
  cases h with
  | cons _ t h => cases h; exact ⟨t, rfl⟩
theorem cl_over : ∀ (x y q : Int) (tx ty tq : Tok) (f : Int) (hq : 2 ≤ q ∧ q ≤ 5) (hy : -1000000 < y ∧ y < 1000000) (hf : 0 ≤ f ∧ f < q) (h1 : Int.fmod (f * y - x) q = 0) (h2 : ∀ f', 0 ≤ f' → f' < q → Int.fmod (f' * y - x) q = 0 → f' = f), Cl 2 344 [.int x tx, .int y ty, .int q tq] [] [] (fun _ => True) (IntIs f) := by
  refine eps4 (ne4 ne_int ne_int ne_int ne_nat) ((?_ : ∀ a0 a1 a2 a3, At4 _ a0 a1 a2 a3) _ _ _ _)
  intros x y q tx
  refine At4.mk ?_
  refine eps3 (ne3 ne_nat ne_nat ne_int) ((?_ : ∀ a0 a1 a2, At3 _ a0 a1 a2) _ _ _)
  intros ty tq f
  refine At3.mk ?_
  intros hq
  intros hy
  intros hf
  intros h1
  intros h2
  k_with_none
  k_with "kne" => (refine neN ?_; (try dsimp only); first | exact Nat.ne_of_gt (by with_reducible assumption) | exact Nat.ne_of_lt (by with_reducible assumption) | with_reducible assumption | exact Ne.symm (by with_reducible assumption) | exact Nat.succ_ne_self _ | exact Ne.symm (Nat.succ_ne_self _) | (apply Nat.ne_of_gt; apply And.left; k_extra "krn"; done) | (apply Nat.ne_of_lt; apply And.left; k_extra "krn"; done) | (apply Nat.ne_of_gt; k_extra "krn"; done) | (apply Nat.ne_of_lt; k_extra "krn"; done) | k_extra "kd4" | (apply Ne.symm; k_extra "kd4") | omega)
  k_with "kd1" => first | with_reducible assumption | (apply And.left; with_reducible assumption) | (apply And.right; with_reducible assumption)
  k_with "kd2" => first | with_reducible assumption | (apply And.left; k_extra "kd1") | (apply And.right; k_extra "kd1")
  k_with "kd3" => first | with_reducible assumption | (apply And.left; k_extra "kd2") | (apply And.right; k_extra "kd2")
  k_with "kd4" => first | with_reducible assumption | (apply And.left; k_extra "kd3") | (apply And.right; k_extra "kd3")
  k_with "krn" => ((iterate 19 (first | done | with_reducible assumption | apply And.right)); done)
  k_with "omg" => first | exact Mine.room2 (by with_reducible assumption) rfl | exact Mine.units2 (by with_reducible assumption) cLine_is rfl | ((repeat (rename @Ne Nat _ _ => z9w; clear z9w)); (repeat (rename @Ne Nat _ _ ∧ _ => z9w; clear z9w)); (repeat (rename (@Ne Nat _ _ ∧ _) ∧ _ => z9w; clear z9w)); omega +splitDisjunctions)
  k_with "last subscriptTail" => ((with_reducible show wpAny _ _ (subscriptTail _ _ (Value.ref _) (Value.int _ _)) _ _ _); refine Hold.of ?_; walk_say "BREAK")
  w_top off
  unfold Cl
  k_fill
  refine eps23 ne_cx ((?_ : ∀ w p loose mean mg mb dp un gd cn cs a ccd cl outer A₀ base h₀ L m s Q E, At23 _ w p loose mean mg mb dp un gd cn cs a ccd cl outer A₀ base h₀ L m s Q E) _ _ _ _ _ _ _ _ _ _ _ _ _ _ _ _ _ _ _ _ _ _ _)
  intros w p loose mean mg mb dp un gd cn cs a ccd cl outer A₀ base h₀ L m s Q E
  refine At23.mk ?_
  intros B F X T hk N hpre hd hu hret
  k_dflt (refine' enter_cells ?k1 ?k2 ?k3 ?k4 ?k5 ?kA ?kF ?kK ?k6 ?k7 ?k8 ?k9 ?kB ?kD ?_ ?c2 ?c3 ?c4; (case kA => exact rfl); (case kF => exact rfl); (case kK => assumption); (case k1 => k_asm); (case k2 => k_asm); (case k3 => k_asm); (case k4 => k_asm); (case k5 => k_asm); (case k6 => k_is); (case k7 => k_is); (case k8 => ktr_room); (case k9 => first | exact BindsTo.of_eq rfl | exact binds_K (by k_in) rfl (by k_is) rfl rfl rfl); (case kB => exact rfl); (case kD => decide +kernel); (case c2 => exact rfl); (case c3 => exact rfl); (case c4 => exact rfl); k_whole; refine eps4 (ne4 ne_heap ne_nat ne_heap ne_nat) ((?_ : ∀ a b c d, At4 _ a b c d) _ _ _ _); intros g' L' h' tk'; refine At4.mk ?_; intros cells' FG' F' N' Y' B' X' T' l1 kG'; (try k_lt l1); k_cells Y'; (try simp only [List.cons_append, List.nil_append] at N'); (try dsimp only); (try k_fold))
  k_steps
  refine Hold.on ?_
  (rename IntsAre _ _ => hI9)
  rw [over_fold hf h1 h2] at hI9
  obtain ⟨t9, e9⟩ := ints_one hI9
  subst e9
  k_steps
  exact hret _ _ _ (fun b o e hb => Fr.keep (by with_reducible assumption) b o (kG' b o e hb)) ⟨_, rfl⟩
end Mine
-- FnAttr
namespace Mine
open PySem.Builtin PySem.Builtin.ObjectAttr
theorem fn_slot_sa : Slot "function" "__setattr__" "object.__setattr__" := .of (owner := "object") (n := "__setattr__") (by rw [typeLookup_type, builtinLookup_eq_fast]; kernel_rfl) (by decide +kernel) (by decide +kernel) (by decide +kernel)
    (by first | exact .inl (by decide +kernel) | exact .inr (by decide +kernel)) (by rw [isSubtype_type]; kernel_rfl)
theorem fn_look_read : typeLookup (.type "function") "read" = pure none := by rw [typeLookup_type, builtinLookup_eq_fast]; kernel_rfl
theorem fn_mro : mroOf (.type "function") = pure [.type "function", .type "object"] := by kernel_rfl
theorem fn_refuse (self : Value) : refuseLoop self "__setattr__" [.type "function", .type "object"] = pure () := by kernel_rfl
section
variable {prog : Program} {w : World} {A : Around} {E : Value → Shared → Prop} {s : Shared} {x : Addr} {fd : FuncData} {sl : Array (Option Value)} {v : Value}
noncomputable abbrev fnObj (d : Option Addr) (fd : FuncData) (sl : Array (Option Value)) : Obj := ⟨.type "function", d, .func fd, sl⟩
theorem fn_typeOf {M : Model} {d : Option Addr} {s : Shared} {E : Value → Shared → Prop} {Q : Value → Shared → Prop} (hx : s.heap.get? x = some (fnObj d fd sl)) (h : Q (.type "function") s) : wpAny M A (typeOf (.ref x)) Q E s :=
  wpAny_bind (wpAny_loadPart hx (wpAny_pure h))
theorem fn_set {Q : Unit → Shared → Prop} (hx : s.heap.get? x = some (fnObj none fd sl))
    (h : ∀ D h' tk' hsh key, D = s.heap.objs.size → h'.get? x = some (fnObj (some D) fd sl) → h'.get? D = some (dictOf [⟨hsh, .str (Str.ofString "read") key, v⟩] 1) →
      (∀ b o, b ≠ x → s.heap.get? b = some o → h'.get? b = some o) → Q () { s with heap := h', toks := tk' }) :
    wpAny (model prog w) A (setAttr (.ref x) (Str.ofString "read") v) Q E s := by
  have hT : ∀ tk, ({ s with toks := tk } : Shared).TypeIs (.ref x) "function" := fun _ => ⟨_, hx, rfl⟩
  refine wpAny_bind (wpAny_mkText (wpAny_bind (wpAny_callSpecial?_slot (hT _) fn_slot_sa ?_)))
  refine wpAny_call (codeAny_call_builtin fn_slot_sa.plain PySem.F.entry_object_sa (fn_slot_sa.check _ _ _ _ _ _ _ _ (hT _) (PySem.F.store_object.args _ _ _) ?_))
  rw [osa_eq, refuse_eq]
  refine wpAny_bind (wpAny_bind (fn_typeOf hx (wpAny_bind ?_)))
  rw [fn_mro]
  refine wpAny_pure ?_
  rw [fn_refuse]
  refine wpAny_pure (wpAny_bind (fn_typeOf hx (wpAny_bind ?_)))
  rw [fn_look_read]
  refine wpAny_pure (wpAny_bind (wpAny_pure ?_))
  show wpAny _ _ (storeInOwnDict (.ref x) (.type "function") _ _ v _) _ _ _
  unfold storeInOwnDict
  refine wpAny_bind (wpAny_pure ?_)
  have hx₁ : (s.heap.push { cls := .type "dict", data := .dict #[] }).get? x = some (fnObj none fd sl) := Heap.get?_push_of_some _ hx
  have hxs : x ≠ s.heap.objs.size := Nat.ne_of_lt (Heap.lt_size hx)
  refine wpAny_bind (wpAny_bind (wpAny_loadPart hx ?_))
  refine wpAny_bind (wpAny_alloc ?_)
  refine wpAny_bind (wpAny_update hx₁ ?_)
  refine wpAny_pure (a := some s.heap.objs.size) ?_
  have hd₁ : ((s.heap.push { cls := .type "dict", data := .dict #[] }).update x fun o => { o with dict := some s.heap.objs.size }).get? s.heap.objs.size = some (dictOf [] 0) :=
    (Heap.get?_update_ne _ _ _ _ hxs.symm).trans (Heap.get?_push_at rfl rfl)
  have hx₂ : ((s.heap.push { cls := .type "dict", data := .dict #[] }).update x fun o => { o with dict := some s.heap.objs.size }).get? x = some (fnObj (some s.heap.objs.size) fd sl) := Heap.get?_update_self _ hx₁ rfl
  refine wpAny_bind (wpAny_pure (wpAny_bind ?_))
  unfold nsSet
  refine wpAny_bind (wpAny_bind (wpAny_askSetting (wpAny_pure (wpAny_bind (wpAny_mkText (wpAny_bind (wpAny_loadPart hd₁ ?_)))))))
  dsimp only
  rw [aRefKeyMayBeTheName_at]
  have c : (!(#[] : Array DictEntry).any (fun e => e.key.isStr (Str.ofString "read")) && (#[] : Array DictEntry).any (fun e => e.refKey)) = false := by simp
  rw [c]
  refine wpAny_updatePart hd₁ ?_
  have hp := putName_dict (Str.ofString "read") (PyData.keyHash w.params (Str.ofString "read")) (.str (Str.ofString "read") (s.toks + 1)) v [] 0
  have hd₂ := Heap.get?_update_self (Obj.putName (Str.ofString "read") (PyData.keyHash w.params (Str.ofString "read")) (.str (Str.ofString "read") (s.toks + 1)) v) hd₁ (by rw [hp]; rfl)
  rw [hp] at hd₂
  refine wpAny_bind (wpAny_lookBehind hd₂ (pastItsLine_dict (by rw [sizeLine_eq]; show 1 ≤ _; decide)) ?_)
  refine wpAny_pure (wpAny_pure ?_)
  refine h s.heap.objs.size _ _ _ _ rfl ?_ hd₂ ?_
  · exact (Heap.get?_update_ne _ _ _ _ hxs).trans hx₂
  · intro b o hb e
    have hbs : b ≠ s.heap.objs.size := Nat.ne_of_lt (Heap.lt_size e)
    exact (Heap.get?_update_ne _ _ _ _ hbs).trans ((Heap.get?_update_ne _ _ _ _ hb).trans (Heap.get?_push_of_some _ e))
theorem fn_slot_ga : Slot "function" "__getattribute__" "object.__getattribute__" := .of (owner := "object") (n := "__getattribute__") (by rw [typeLookup_type, builtinLookup_eq_fast]; kernel_rfl) (by decide +kernel) (by decide +kernel) (by decide +kernel)
    (by first | exact .inl (by decide +kernel) | exact .inr (by decide +kernel)) (by rw [isSubtype_type]; kernel_rfl)
theorem fn_look_ga : typeLookup (.type "function") "__getattr__" = pure none := by rw [typeLookup_type, builtinLookup_eq_fast]; kernel_rfl
theorem fn_canon : (Manifest.canonical "object.__getattribute__" != "object.__getattribute__") = false := by decide +kernel
theorem fn_getAttr {D : Addr} {hsh : Int} {key : Tok} {y : Addr} {e : Bool} {Q : Value → Shared → Prop} (hx : s.heap.get? x = some (fnObj (some D) fd sl)) (hD : s.heap.get? D = some (dictOf [⟨hsh, .str (Str.ofString "read") key, .ref y⟩] 1))
    (h : Q (.ref y) { s with toks := s.toks + 1 }) : wpAny (model prog w) A (getAttr (.ref x) (Str.ofString "read") e) Q E s := by
  have hT : ∀ tk, ({ s with toks := tk } : Shared).TypeIs (.ref x) "function" := fun _ => ⟨_, hx, rfl⟩
  unfold getAttr
  refine wpAny_bind (wpAny_mkText ?_)
  unfold getAttrBy
  refine wpAny_holding (wpAny_bind (fn_typeOf hx (wpAny_bind ?_)))
  rw [fn_slot_ga.lookup]
  refine wpAny_pure ?_
  unfold getAttrByItsOwn
  refine wpAny_bind (wpAny_pure (wpAny_bind (wpAny_attempt (wpAny_holding ?_))))
  unfold callGetattribute boundAndCalled
  rw [show (e && onTheHeap (Value.builtin "object.__getattribute__")) = false by cases e <;> rfl, if_neg (by decide), fn_slot_ga.bind]
  refine wpAny_bind (wpAny_pure ?_)
  refine wpAny_call (codeAny_call_builtin fn_slot_ga.plain PySem.F.entry_object_getattribute (fn_slot_ga.check _ _ _ _ _ _ _ _ (hT _) (PySem.F.args_object_getattribute_2 _ _) ?_))
  unfold Builtin.«object.__getattribute__»
  refine wpAny_bind (wpAny_bind (wpAny_pure (wpAny_pure ?_)))
  refine wpAny_bind (wpAny_pure (wpAny_bind (fn_typeOf hx (wpAny_bind ?_))))
  unfold ObjectAttr.find
  rw [fn_look_read]
  refine wpAny_bind (wpAny_pure (wpAny_bind (wpAny_pure (wpAny_bind (wpAny_pure ?_)))))
  show wpAny _ _ (ownThenClass (.ref x) _ none none) _ _ _
  unfold ownThenClass
  refine wpAny_bind (wpAny_bind (wpAny_bind (wpAny_loadPart hx (wpAny_bind (wpAny_loadPart hx (wpAny_pure (a := some D) (wpAny_bind (wpAny_loadPart hD ?_)))))))) 
  rw [nsLook_of (r := some (.ref y)) rfl]
  refine wpAny_pure (wpAny_bind (wpAny_rule (wpAny_pure ?_)))
  exact wpAny_pure (wpAny_pure h)
theorem fn_method {D : Addr} {hsh : Int} {key : Tok} {y : Addr} {pl : Sem Bool} {Q : Value × List Value → Shared → Prop} (hx : s.heap.get? x = some (fnObj (some D) fd sl)) (hD : s.heap.get? D = some (dictOf [⟨hsh, .str (Str.ofString "read") key, .ref y⟩] 1))
    (h : Q (.ref y, []) { s with toks := s.toks + 1 }) : wpAny (model prog w) A (getMethod (.ref x) (Str.ofString "read") pl) Q E s := by
  have hT : s.TypeIs (.ref x) "function" := ⟨_, hx, rfl⟩
  unfold getMethod
  refine wpAny_bind (wpAny_specialOf hT fn_slot_ga.lookup ?_)
  dsimp only
  rw [if_neg (by rw [fn_canon]; decide)]
  refine wpAny_bind (wpAny_specialOf hT fn_look_ga ?_)
  rw [if_neg (by decide)]
  refine wpAny_bind (wpAny_specialOf hT fn_look_read ?_)
  exact wpAny_bind (fn_getAttr hx hD (wpAny_pure h))
theorem fn_set_K {h₀ : Heap} {L : Addr} {m : Str → Option Value} {news : Led} {g : Obj → Led} {Q : Unit → Shared → Prop} (F : Fr h₀ L s.heap m) (N : News h₀ L s.heap news) (U : UpdF x (fnObj none fd sl) news g)
    (h : ∀ D h' tk' hsh key, Fr h₀ L h' m → News h₀ L h' ((D, dictOf [⟨hsh, .str (Str.ofString "read") key, v⟩] 1) :: g (fnObj (some D) fd sl)) → (∀ p ∈ news, p.1 < D) → Q () { s with heap := h', toks := tk' }) :
    wpAny (model prog w) A (setAttr (.ref x) (Str.ofString "read") v) Q E s := by
  obtain ⟨pre, post, rfl, hg, h1, h2⟩ := U.split
  have hx := N (x, fnObj none fd sl) (by simp)
  refine fn_set hx.1 fun D h' tk' hsh key eD e1 e2 e3 => ?_
  have lt : ∀ p ∈ pre ++ (x, fnObj none fd sl) :: post, p.1 < D := fun p hp => eD ▸ Heap.lt_size (N p hp).1
  obtain ⟨oL, es, ep, hL, r⟩ := F.ns
  refine h D h' tk' hsh key ⟨⟨oL, es, ep, e3 _ _ (Ne.symm hx.2.1) hL, r⟩, fun b o e => e3 b o (fun q => ?_) (F.keep b o e), F.above⟩ (fun p hp => ?_) lt
  · have := hx.2.2; rw [← q, e] at this; cases this
  rw [hg] at hp
  have old : ∀ p ∈ pre ++ (x, fnObj none fd sl) :: post, p.1 ≠ x → h'.get? p.1 = some p.2 ∧ p.1 ≠ L ∧ h₀.get? p.1 = none := fun p hp hn => ⟨e3 _ _ hn (N p hp).1, (N p hp).2⟩
  rcases List.mem_cons.mp hp with rfl | hp
  · refine ⟨e2, eD ▸ Nat.ne_of_gt (Heap.lt_size hL), ?_⟩
    cases q : h₀.get? D with
    | none => rfl
    | some o => exact absurd (Heap.lt_size (F.keep _ _ q)) (eD ▸ Nat.lt_irrefl _)
  rcases List.mem_append.mp hp with hp | hp
  · exact old p (List.mem_append_left _ hp) (h1 p hp)
  rcases List.mem_cons.mp hp with rfl | hp
  · exact ⟨e1, hx.2⟩
  · exact old p (List.mem_append_right _ (.tail _ hp)) (h2 p hp)
end
end Mine
-- Psh
namespace Mine
/-- what of a lexer's dict no text asks: hashes and tokens -/
structure LK where
  h1 : Int
  h2 : Int
  h3 : Int
  h4 : Int
  k1 : Tok
  k2 : Tok
  k3 : Tok
  k4 : Tok
  tw : Tok
noncomputable abbrev lexDict (K : LK) (n : Int) (tn : Tok) (tp pb : Addr) : Obj := dictOf [⟨K.h1, .str (Str.ofString "lineno") K.k1, .int n tn⟩, ⟨K.h2, .str (Str.ofString "instream") K.k2, .ref tp⟩, ⟨K.h3, .str (Str.ofString "whitespace") K.k3, .str (Str.ofString "\n\t\r ") K.tw⟩, ⟨K.h4, .str (Str.ofString "pushback") K.k4, .ref pb⟩] 4
noncomputable abbrev lexSub (lx dx pb tp : Addr) (K : LK) (n : Int) (tn : Tok) (ws : List Value) (ep : Nat) : Led := [(lx, instObj 118 dx), (dx, lexDict K n tn tp pb), (pb, W.listOf ws.toArray ep)]
/-- what stands behind: the lexer with another push-back list -/
noncomputable abbrev LexIs (lx dx pb tp : Addr) (K : LK) (n : Int) (tn : Tok) (ws : List Value) (ep : Nat) (h : Heap) : Prop := h.get? pb = some (W.listOf ws.toArray ep) ∧ ∀ q ∈ lexSub lx dx pb tp K n tn ws ep, q.1 ≠ pb → h.get? q.1 = some q.2
theorem cl_push : ∀ (lx dx pb tp : Addr) (K : LK) (n : Int) (tn : Tok) (ws : List Value) (ep : Nat) (x : Str) (tx : Tok) (hw : ws.length < 1000), Cl 1 115 [.ref lx, .str x tx] [] (lexSub lx dx pb tp K n tn ws ep) (fun _ => dx ≠ pb ∧ lx ≠ pb ∧ lx ≠ dx)
      (fun v _ h' => v = .none ∧ LexIs lx dx pb tp K n tn (ws ++ [.str x tx]) (ep + 1) h') := by
  refine eps8 (ne8 ne_nat ne_nat ne_nat ne_nat (⟨⟨0, 0, 0, 0, 0, 0, 0, 0, 0⟩⟩) ne_int ne_nat ne_vals) ((?_ : ∀ a0 a1 a2 a3 a4 a5 a6 a7, At8 _ a0 a1 a2 a3 a4 a5 a6 a7) _ _ _ _ _ _ _ _)
  intros lx dx pb tp K n tn ws
  refine At8.mk ?_
  refine eps3 (ne3 ne_nat ne_str ne_nat) ((?_ : ∀ a0 a1 a2, At3 _ a0 a1 a2) _ _ _)
  intros ep x tx
  refine At3.mk ?_
  intros hw
  k_with_none
  k_with "kne" => (refine neN ?_; (try dsimp only); first | exact Nat.ne_of_gt (by with_reducible assumption) | exact Nat.ne_of_lt (by with_reducible assumption) | with_reducible assumption | exact Ne.symm (by with_reducible assumption) | exact Nat.succ_ne_self _ | exact Ne.symm (Nat.succ_ne_self _) | (apply Nat.ne_of_gt; apply And.left; k_extra "krn"; done) | (apply Nat.ne_of_lt; apply And.left; k_extra "krn"; done) | (apply Nat.ne_of_gt; k_extra "krn"; done) | (apply Nat.ne_of_lt; k_extra "krn"; done) | k_extra "kd4" | (apply Ne.symm; k_extra "kd4") | omega)
  k_with "kd1" => first | with_reducible assumption | (apply And.left; with_reducible assumption) | (apply And.right; with_reducible assumption)
  k_with "kd2" => first | with_reducible assumption | (apply And.left; k_extra "kd1") | (apply And.right; k_extra "kd1")
  k_with "kd3" => first | with_reducible assumption | (apply And.left; k_extra "kd2") | (apply And.right; k_extra "kd2")
  k_with "kd4" => first | with_reducible assumption | (apply And.left; k_extra "kd3") | (apply And.right; k_extra "kd3")
  k_with "krn" => ((iterate 19 (first | done | with_reducible assumption | apply And.right)); done)
  k_with "omg" => first | exact Mine.room2 (by with_reducible assumption) rfl | exact Mine.units2 (by with_reducible assumption) cLine_is rfl | ((repeat (rename @Ne Nat _ _ => z9w; clear z9w)); (repeat (rename @Ne Nat _ _ ∧ _ => z9w; clear z9w)); (repeat (rename (@Ne Nat _ _ ∧ _) ∧ _ => z9w; clear z9w)); omega +splitDisjunctions)
  w_top off
  unfold Cl
  k_fill
  refine eps23 ne_cx ((?_ : ∀ w p loose mean mg mb dp un gd cn cs a ccd cl outer A₀ base h₀ L m s Q E, At23 _ w p loose mean mg mb dp un gd cn cs a ccd cl outer A₀ base h₀ L m s Q E) _ _ _ _ _ _ _ _ _ _ _ _ _ _ _ _ _ _ _ _ _ _ _)
  intros w p loose mean mg mb dp un gd cn cs a ccd cl outer A₀ base h₀ L m s Q E
  refine At23.mk ?_
  intros B F X T hk N hpre hd hu hret
  k_dflt (refine' code_defG ?k1 ?k2 ?k3 ?k4 ?k5 ?kA ?kF ?kK ?k6 ?k7 ?k8 ?k9 ?kB ?_ ?c2 ?c3 ?c4 ?c5; (case kA => exact rfl); (case kF => exact rfl); (case kK => assumption); (case k1 => k_asm); (case k2 => k_asm); (case k3 => k_asm); (case k4 => k_asm); (case k5 => k_asm); (case k6 => k_is); (case k7 => k_is); (case k8 => ktr_room); (case k9 => first | exact BindsTo.of_eq rfl | exact binds_K (by k_in) rfl (by k_is) rfl rfl rfl); (case c5 => decide); (case kB => exact locs rfl); (case c2 => exact rfl); (case c3 => exact rfl); (case c4 => exact rfl); k_whole; refine eps3 (ne3 ne_heap ne_nat ne_heap) ((?_ : ∀ a b c, At3 _ a b c) _ _ _); intros g' L' h'; refine At3.mk ?_; intros FG' F' N' B' X' T' kG'; (try dsimp only); (try k_fold))
  obtain ⟨n1, n2, n3⟩ := hpre
  dsimp only [lexSub] at N'
  k_steps
  (rename News g' _ _ _ => N9)
  rw [List.push_toArray] at N9
  exact hret _ _ _ (fun b o e hb => Fr.keep (by with_reducible assumption) b o (kG' b o e hb)) ⟨rfl, (N9 (pb, _) (by simp)).1, fun q hq hne => (N9 q (by
    simp only [lexSub, List.mem_cons, List.not_mem_nil, or_false] at hq ⊢
    rcases hq with hq | hq | hq
    · exact .inl hq
    · exact .inr (.inl hq)
    · subst hq; exact absurd rfl hne)).1⟩
section
variable {prog : Program} {w : World} {A : Around} {E : Value → Shared → Prop} {s : Shared} {h₀ : Heap} {L : Addr} {m : Str → Option Value} {news news' : Led}
theorem isList_led {l : Addr} {vs : List Value} {n : Nat} (N : News h₀ L s.heap news) (hm : (l, W.listOf vs.toArray n) ∈ news) : s.heap.IsList l vs.toArray := ⟨_, (N _ hm).1, rfl, n, rfl⟩
theorem truthy_cons {l : Addr} {v : Value} {vs : List Value} {n : Nat} {Q : Bool → Shared → Prop} (N : News h₀ L s.heap news) (hm : (l, W.listOf (v :: vs).toArray n) ∈ news) (hz : vs.length < 1000000)
    (h : Q true { s with toks := s.toks + 1 + 1 }) : wpAny (model prog w) A (truthy (.ref l)) Q E s :=
  wpAny_truthy_list (isList_led N hm) (by rw [List.size_toArray, List.length_cons]; omega) (by
    have : (!(v :: vs).toArray.isEmpty) = true := by simp
    rw [this]; exact h)
theorem truthy_nil {l : Addr} {n : Nat} {Q : Bool → Shared → Prop} (N : News h₀ L s.heap news) (hm : (l, W.listOf ([] : List Value).toArray n) ∈ news)
    (h : Q false { s with toks := s.toks + 1 + 1 }) : wpAny (model prog w) A (truthy (.ref l)) Q E s :=
  wpAny_truthy_list (isList_led N hm) (by decide) h
theorem pop_cons {D : Addr} {v : Value} {vs : List Value} {n : Nat} {u : Tok} {Q : Value → Shared → Prop} (F : Fr h₀ L s.heap m) (N : News h₀ L s.heap news) (U : Upd D (W.listOf (v :: vs).toArray n) (W.listOf vs.toArray (n + 1)) news news') (hz : vs.length < 1000000)
    (h : ∀ h', Fr h₀ L h' m → News h₀ L h' news' → Q v { s with heap := h' }) : wpAny (model prog w) A (call (.builtin "list.pop") [.ref D, .int 0 u]) Q E s :=
  kl_popAt (k := 0) (p := []) (q := vs) F N rfl (by
    unfold seqIndex?
    simp [Int.ofNat_lt]
    try omega) rfl U (by show (v :: vs).length ≤ sizeLine; rw [sizeLine_eq, List.length_cons]; omega) h
end
theorem cl_pop : ∀ (lx dx pb tp : Addr) (K : LK) (n : Int) (tn : Tok) (ws : List Value) (ep : Nat) (x : Str) (tx : Tok) (hw : ws.length < 1000), Cl 1 108 [.ref lx] [] (lexSub lx dx pb tp K n tn (.str x tx :: ws) ep) (fun _ => dx ≠ pb ∧ lx ≠ pb ∧ lx ≠ dx)
      (fun v _ h' => v = .str x tx ∧ LexIs lx dx pb tp K n tn ws (ep + 1) h') := by
  refine eps8 (ne8 ne_nat ne_nat ne_nat ne_nat (⟨⟨0, 0, 0, 0, 0, 0, 0, 0, 0⟩⟩) ne_int ne_nat ne_vals) ((?_ : ∀ a0 a1 a2 a3 a4 a5 a6 a7, At8 _ a0 a1 a2 a3 a4 a5 a6 a7) _ _ _ _ _ _ _ _)
  intros lx dx pb tp K n tn ws
  refine At8.mk ?_
  refine eps3 (ne3 ne_nat ne_str ne_nat) ((?_ : ∀ a0 a1 a2, At3 _ a0 a1 a2) _ _ _)
  intros ep x tx
  refine At3.mk ?_
  intros hw
  k_with_none
  k_with "kne" => (refine neN ?_; (try dsimp only); first | exact Nat.ne_of_gt (by with_reducible assumption) | exact Nat.ne_of_lt (by with_reducible assumption) | with_reducible assumption | exact Ne.symm (by with_reducible assumption) | exact Nat.succ_ne_self _ | exact Ne.symm (Nat.succ_ne_self _) | (apply Nat.ne_of_gt; apply And.left; k_extra "krn"; done) | (apply Nat.ne_of_lt; apply And.left; k_extra "krn"; done) | (apply Nat.ne_of_gt; k_extra "krn"; done) | (apply Nat.ne_of_lt; k_extra "krn"; done) | k_extra "kd4" | (apply Ne.symm; k_extra "kd4") | omega)
  k_with "kd1" => first | with_reducible assumption | (apply And.left; with_reducible assumption) | (apply And.right; with_reducible assumption)
  k_with "kd2" => first | with_reducible assumption | (apply And.left; k_extra "kd1") | (apply And.right; k_extra "kd1")
  k_with "kd3" => first | with_reducible assumption | (apply And.left; k_extra "kd2") | (apply And.right; k_extra "kd2")
  k_with "kd4" => first | with_reducible assumption | (apply And.left; k_extra "kd3") | (apply And.right; k_extra "kd3")
  k_with "krn" => ((iterate 19 (first | done | with_reducible assumption | apply And.right)); done)
  k_with "omg" => first | exact Mine.room2 (by with_reducible assumption) rfl | exact Mine.units2 (by with_reducible assumption) cLine_is rfl | ((repeat (rename @Ne Nat _ _ => z9w; clear z9w)); (repeat (rename @Ne Nat _ _ ∧ _ => z9w; clear z9w)); (repeat (rename (@Ne Nat _ _ ∧ _) ∧ _ => z9w; clear z9w)); omega +splitDisjunctions)
  k_with "truthy ref" => (k_here; (with_reducible show wpAny _ _ (truthy (Value.ref _)) _ _ _); k_dflt (first
    | (refine' truthy_cons ?N ?m ?z ?_; (case N => k_asm); (case m => k_mem); (case z => omega))
    | (refine' truthy_nil ?N ?m ?_; (case N => k_asm); (case m => k_mem))))
  k_with "call builtin:list.pop" => (k_here; k_dflt ((with_reducible show wpAny _ _ (call (Value.builtin _) [Value.ref _, Value.int _ _]) _ _ _); refine' pop_cons ?F ?N ?U ?z ?_; (case F => k_asm); (case N => k_asm); (case U => k_upd); (case z => omega)); intro h'w F'w N'w; (try dsimp only [List.nil_append, List.cons_append] at N'w))
  w_top off
  unfold Cl
  k_fill
  refine eps23 ne_cx ((?_ : ∀ w p loose mean mg mb dp un gd cn cs a ccd cl outer A₀ base h₀ L m s Q E, At23 _ w p loose mean mg mb dp un gd cn cs a ccd cl outer A₀ base h₀ L m s Q E) _ _ _ _ _ _ _ _ _ _ _ _ _ _ _ _ _ _ _ _ _ _ _)
  intros w p loose mean mg mb dp un gd cn cs a ccd cl outer A₀ base h₀ L m s Q E
  refine At23.mk ?_
  intros B F X T hk N hpre hd hu hret
  k_dflt (refine' code_defG ?k1 ?k2 ?k3 ?k4 ?k5 ?kA ?kF ?kK ?k6 ?k7 ?k8 ?k9 ?kB ?_ ?c2 ?c3 ?c4 ?c5; (case kA => exact rfl); (case kF => exact rfl); (case kK => assumption); (case k1 => k_asm); (case k2 => k_asm); (case k3 => k_asm); (case k4 => k_asm); (case k5 => k_asm); (case k6 => k_is); (case k7 => k_is); (case k8 => ktr_room); (case k9 => first | exact BindsTo.of_eq rfl | exact binds_K (by k_in) rfl (by k_is) rfl rfl rfl); (case c5 => decide); (case kB => exact locs rfl); (case c2 => exact rfl); (case c3 => exact rfl); (case c4 => exact rfl); k_whole; refine eps3 (ne3 ne_heap ne_nat ne_heap) ((?_ : ∀ a b c, At3 _ a b c) _ _ _); intros g' L' h'; refine At3.mk ?_; intros FG' F' N' B' X' T' kG'; (try dsimp only); (try k_fold))
  obtain ⟨n1, n2, n3⟩ := hpre
  dsimp only [lexSub] at N'
  k_steps
  (rename News g' _ _ _ => N9)
  exact hret _ _ _ (fun b o e hb => Fr.keep (by with_reducible assumption) b o (kG' b o e hb)) ⟨rfl, (N9 (pb, _) (by simp)).1, fun q hq hne => (N9 q (by
    simp only [lexSub, List.mem_cons, List.not_mem_nil, or_false] at hq ⊢
    rcases hq with hq | hq | hq
    · exact .inl hq
    · exact .inr (.inl hq)
    · subst hq; exact absurd rfl hne)).1⟩
end Mine
-- Rdc
namespace Mine
theorem fn_method_K {prog : Program} {w : World} {A : Around} {E : Value → Shared → Prop} {s : Shared} {h₀ : Heap} {L : Addr} {news : Led} {x D : Addr} {fd : FuncData} {sl : Array (Option Value)} {hsh : Int} {key : Tok} {y : Addr} {pl : Sem Bool} {Q : Value × List Value → Shared → Prop}
    (N : News h₀ L s.heap news) (h1 : (x, fnObj (some D) fd sl) ∈ news) (h2 : (D, dictOf [⟨hsh, .str (Str.ofString "read") key, .ref y⟩] 1) ∈ news)
    (h : Q (.ref y, []) { s with toks := s.toks + 1 }) : wpAny (model prog w) A (getMethod (.ref x) (Str.ofString "read") pl) Q E s := fn_method (N _ h1).1 (N _ h2).1 h
noncomputable abbrev rdSub (rd c0 cc sg : Addr) (fdr : FuncData) (co cco : Obj) (xs : List Value) (ep : Nat) : Led := [(rd, fnObj none fdr #[]), (c0, co), (cc, cco), (sg, W.listOf xs.toArray ep)]
/-- a reader: a call of it takes the first sign of its list, or hands on the empty text -/
structure ReadOk (rd c0 cc sg : Addr) (fdr : FuncData) (co cco : Obj) : Prop where
  cons : ∀ (c : Str) (tc : Tok) (xs : List Value) (ep : Nat) (t : Tok), xs.length < 1000 → Cl 1 rd [.int 1 t] [] (rdSub rd c0 cc sg fdr co cco (.str c tc :: xs) ep) (fun _ => rd ≠ sg ∧ c0 ≠ sg ∧ cc ≠ sg)
    (fun v _ h' => v = .str c tc ∧ h'.get? sg = some (W.listOf xs.toArray (ep + 1)) ∧ ∀ q ∈ rdSub rd c0 cc sg fdr co cco (.str c tc :: xs) ep, q.1 ≠ sg → h'.get? q.1 = some q.2)
  nil : ∀ (ep : Nat) (t : Tok), Cl 1 rd [.int 1 t] [] (rdSub rd c0 cc sg fdr co cco [] ep) (fun _ => rd ≠ sg ∧ c0 ≠ sg ∧ cc ≠ sg)
    (fun v _ h' => (∃ t, v = .str (Str.ofString "") t) ∧ ∀ q ∈ rdSub rd c0 cc sg fdr co cco [] ep, h'.get? q.1 = some q.2)
noncomputable abbrev strmSub (lx dx tp D rd c0 cc sg pb : Addr) (K : LK) (n : Int) (tn : Tok) (fdl fdr : FuncData) (co cco : Obj) (hsh : Int) (key : Tok) (xs : List Value) (ep : Nat) : Led :=
  [(lx, instObj 118 dx), (dx, lexDict K n tn tp pb), (tp, fnObj (some D) fdl #[]), (D, dictOf [⟨hsh, .str (Str.ofString "read") key, .ref rd⟩] 1), (rd, fnObj none fdr #[]), (c0, co), (cc, cco), (sg, W.listOf xs.toArray ep)]
noncomputable abbrev strmApart (lx dx tp D rd c0 cc sg : Addr) : Prop := (@Ne Nat lx dx ∧ @Ne Nat lx sg ∧ @Ne Nat dx sg) ∧ (@Ne Nat tp dx ∧ @Ne Nat tp sg ∧ @Ne Nat D dx ∧ @Ne Nat D sg) ∧ (@Ne Nat rd dx ∧ @Ne Nat rd sg ∧ @Ne Nat c0 dx ∧ @Ne Nat c0 sg ∧ @Ne Nat cc dx ∧ @Ne Nat cc sg)
section
variable {w : World} {p : Program} {loose : List Str} {mean : ExcName → Option Value} {mg mb : Str → Option Value} {dp un : Nat} {gd : Option (List Code)} {cn : Str} {sc : Scope} {a : Addr} {ccd : Value} {cl : List (Str × Addr)} {outer : List Env} {A₀ : Around} {base h₀ : Heap} {L : Addr} {m : Str → Option Value} {s : Shared} {Q E : Value → Shared → Prop} {news news' : Led}
theorem use_read {rd c0 cc sg : Addr} {fdr : FuncData} {co cco : Obj} {c : Str} {tc : Tok} {xs : List Value} {ep : Nat} {t : Tok} (R : ReadOk rd c0 cc sg fdr co cco)
    (B : Below A₀ base outer h₀) (F : Fr h₀ L s.heap m) (X : (hd.heap_1 w.params).In h₀) (T : Top p loose mean mg mb h₀) (hk : sc.kind = .function) (N : News h₀ L s.heap news)
    (m4 : (sg, W.listOf (.str c tc :: xs).toArray ep) ∈ news) (hz : xs.length < 1000) (m1 : (rd, fnObj none fdr #[]) ∈ news) (m2 : (c0, co) ∈ news) (m3 : (cc, cco) ∈ news)
    (U : Upd sg (W.listOf (.str c tc :: xs).toArray ep) (W.listOf xs.toArray (ep + 1)) news news') (ne : rd ≠ sg ∧ c0 ≠ sg ∧ cc ≠ sg) (hd : dp + 1 < recursionLimit) (hu : un + 20 * 1 < cLine)
    (ret : ∀ h' tk', Fr h₀ L h' m → News h₀ L h' news' → Q (.str c tc) { s with heap := h', toks := tk' }) :
    wpAny (model Challenge.rw_wj0057_01.row.prog w) (ktrTop dp un gd cn sc L a ccd cl outer) (call (.ref rd) [.int 1 t] []) Q E s := by
  have hs : ∀ q ∈ rdSub rd c0 cc sg fdr co cco (.str c tc :: xs) ep, q ∈ news := by
    intro q hq
    simp only [List.mem_cons, List.not_mem_nil, or_false] at hq
    rcases hq with rfl | rfl | rfl | rfl <;> assumption
  refine cl_gen (R.cons c tc xs ep t hz) B F X T hk N hs ne hd hu fun v h' tk' F' k hp => ?_
  obtain ⟨rfl, e1, e2⟩ := hp
  exact ret h' tk' F' (led_upd N hs k U e1 e2)
theorem use_readNil {rd c0 cc sg : Addr} {fdr : FuncData} {co cco : Obj} {ep : Nat} {t : Tok} (R : ReadOk rd c0 cc sg fdr co cco)
    (B : Below A₀ base outer h₀) (F : Fr h₀ L s.heap m) (X : (hd.heap_1 w.params).In h₀) (T : Top p loose mean mg mb h₀) (hk : sc.kind = .function) (N : News h₀ L s.heap news)
    (m4 : (sg, W.listOf ([] : List Value).toArray ep) ∈ news) (m1 : (rd, fnObj none fdr #[]) ∈ news) (m2 : (c0, co) ∈ news) (m3 : (cc, cco) ∈ news)
    (ne : rd ≠ sg ∧ c0 ≠ sg ∧ cc ≠ sg) (hd : dp + 1 < recursionLimit) (hu : un + 20 * 1 < cLine)
    (ret : ∀ t' h' tk', Fr h₀ L h' m → News h₀ L h' news → Q (.str (Str.ofString "") t') { s with heap := h', toks := tk' }) :
    wpAny (model Challenge.rw_wj0057_01.row.prog w) (ktrTop dp un gd cn sc L a ccd cl outer) (call (.ref rd) [.int 1 t] []) Q E s := by
  have hs : ∀ q ∈ rdSub rd c0 cc sg fdr co cco [] ep, q ∈ news := by
    intro q hq
    simp only [List.mem_cons, List.not_mem_nil, or_false] at hq
    rcases hq with rfl | rfl | rfl | rfl <;> assumption
  refine cl_gen (R.nil ep t) B F X T hk N hs ne hd hu fun v h' tk' F' k hp => ?_
  obtain ⟨⟨t', rfl⟩, e2⟩ := hp
  exact ret t' h' tk' F' (led_same N hs k e2)
end
noncomputable abbrev lnext (n : Int) (c : Str) : Int := if (c == Str.ofString "\n") = true then n + 1 else n
theorem cl_rchar : ∀ (lx dx tp D rd c0 cc sg pb : Addr) (K : LK) (n : Int) (tn : Tok) (fdl fdr : FuncData) (co cco : Obj) (hsh : Int) (key : Tok) (c : Str) (tc : Tok) (xs : List Value) (ep : Nat) (hR : ReadOk rd c0 cc sg fdr co cco) (hz : xs.length < 1000), Cl 2 101 [.ref lx] [] (strmSub lx dx tp D rd c0 cc sg pb K n tn fdl fdr co cco hsh key (.str c tc :: xs) ep) (fun _ => strmApart lx dx tp D rd c0 cc sg)
      (fun v _ h' => v = .str c tc ∧ ∃ tn', ∀ q ∈ strmSub lx dx tp D rd c0 cc sg pb K (lnext n c) tn' fdl fdr co cco hsh key xs (ep + 1), h'.get? q.1 = some q.2) := by
  refine eps8 (ne8 ne_nat ne_nat ne_nat ne_nat ne_nat ne_nat ne_nat ne_nat) ((?_ : ∀ a0 a1 a2 a3 a4 a5 a6 a7, At8 _ a0 a1 a2 a3 a4 a5 a6 a7) _ _ _ _ _ _ _ _)
  intros lx dx tp D rd c0 cc sg
  refine At8.mk ?_
  refine eps8 (ne8 ne_nat (⟨⟨0, 0, 0, 0, 0, 0, 0, 0, 0⟩⟩) ne_int ne_nat (⟨default⟩) (⟨default⟩) ne_obj ne_obj) ((?_ : ∀ a0 a1 a2 a3 a4 a5 a6 a7, At8 _ a0 a1 a2 a3 a4 a5 a6 a7) _ _ _ _ _ _ _ _)
  intros pb K n tn fdl fdr co cco
  refine At8.mk ?_
  refine eps4 (ne4 ne_int ne_nat ne_str ne_nat) ((?_ : ∀ a0 a1 a2 a3, At4 _ a0 a1 a2 a3) _ _ _ _)
  intros hsh key c tc
  refine At4.mk ?_
  refine eps2 (ne2 ne_vals ne_nat) ((?_ : ∀ a0 a1, At2 _ a0 a1) _ _)
  intros xs ep
  refine At2.mk ?_
  intros hR
  intros hz
  k_with_none
  k_with "kne" => (refine neN ?_; (try dsimp only); first | exact Nat.ne_of_gt (by with_reducible assumption) | exact Nat.ne_of_lt (by with_reducible assumption) | with_reducible assumption | exact Ne.symm (by with_reducible assumption) | exact Nat.succ_ne_self _ | exact Ne.symm (Nat.succ_ne_self _) | (apply Nat.ne_of_gt; apply And.left; k_extra "krn"; done) | (apply Nat.ne_of_lt; apply And.left; k_extra "krn"; done) | (apply Nat.ne_of_gt; k_extra "krn"; done) | (apply Nat.ne_of_lt; k_extra "krn"; done) | k_extra "kd4" | (apply Ne.symm; k_extra "kd4") | omega)
  k_with "kd1" => first | with_reducible assumption | (apply And.left; with_reducible assumption) | (apply And.right; with_reducible assumption)
  k_with "kd2" => first | with_reducible assumption | (apply And.left; k_extra "kd1") | (apply And.right; k_extra "kd1")
  k_with "kd3" => first | with_reducible assumption | (apply And.left; k_extra "kd2") | (apply And.right; k_extra "kd2")
  k_with "kd4" => first | with_reducible assumption | (apply And.left; k_extra "kd3") | (apply And.right; k_extra "kd3")
  k_with "krn" => ((iterate 19 (first | done | with_reducible assumption | apply And.right)); done)
  k_with "omg" => first | exact Mine.room2 (by with_reducible assumption) rfl | exact Mine.units2 (by with_reducible assumption) cLine_is rfl | ((repeat (rename @Ne Nat _ _ => z9w; clear z9w)); (repeat (rename @Ne Nat _ _ ∧ _ => z9w; clear z9w)); (repeat (rename (@Ne Nat _ _ ∧ _) ∧ _ => z9w; clear z9w)); omega +splitDisjunctions)
  k_with "getMethod ref" => (k_here; (with_reducible show wpAny _ _ (getMethod (Value.ref _) (Str.ofString "read") _) _ _ _); k_dflt (refine' fn_method_K ?N ?a ?b ?_; (case N => k_asm); (case a => k_mem); (case b => k_mem); k_whole))
  k_with "callWith ref" => (k_here; k_dflt (refine' callWith_F ?k1 ?_; (case k1 => exact FnAt.of (by k_asm) (by k_mem)); k_whole))
  k_with "call ref" => ((with_reducible show wpAny _ _ (PySem.call (Value.ref _) [Value.int 1 _] []) _ _ _); k_dflt (first
    | (refine' use_read (by assumption) ?k1 ?k2 ?k3 ?k4 ?k5 ?k6 ?m4 ?hz ?m1 ?m2 ?m3 ?U ?ne ?kd ?ku ?_; (case k1 => k_asm); (case k2 => k_asm); (case k3 => k_asm); (case k4 => k_asm); (case k5 => first | exact rfl | assumption); (case k6 => k_asm); (case m4 => k_mem); (case hz => omega); (case m1 => k_mem); (case m2 => k_mem); (case m3 => k_mem); (case U => k_upd); (case ne => refine ⟨?_, ?_, ?_⟩ <;> omega); (case kd => ktr_room); (case ku => ktr_units); intro h9w tk9w F9w N9w)
    | (refine' use_readNil (by assumption) ?k1 ?k2 ?k3 ?k4 ?k5 ?k6 ?m4 ?m1 ?m2 ?m3 ?ne ?kd ?ku ?_; (case k1 => k_asm); (case k2 => k_asm); (case k3 => k_asm); (case k4 => k_asm); (case k5 => first | exact rfl | assumption); (case k6 => k_asm); (case m4 => k_mem); (case m1 => k_mem); (case m2 => k_mem); (case m3 => k_mem); (case ne => refine ⟨?_, ?_, ?_⟩ <;> omega); (case kd => ktr_room); (case ku => ktr_units); intro t9w h9w tk9w F9w N9w)); (try dsimp only); (try k_fold); walk_say "CONTRACT")
  w_top off
  unfold Cl
  k_fill
  refine eps23 ne_cx ((?_ : ∀ w p loose mean mg mb dp un gd cn cs a ccd cl outer A₀ base h₀ L m s Q E, At23 _ w p loose mean mg mb dp un gd cn cs a ccd cl outer A₀ base h₀ L m s Q E) _ _ _ _ _ _ _ _ _ _ _ _ _ _ _ _ _ _ _ _ _ _ _)
  intros w p loose mean mg mb dp un gd cn cs a ccd cl outer A₀ base h₀ L m s Q E
  refine At23.mk ?_
  intros B F X T hk N hpre hd hu hret
  k_dflt (refine' code_defG ?k1 ?k2 ?k3 ?k4 ?k5 ?kA ?kF ?kK ?k6 ?k7 ?k8 ?k9 ?kB ?_ ?c2 ?c3 ?c4 ?c5; (case kA => exact rfl); (case kF => exact rfl); (case kK => assumption); (case k1 => k_asm); (case k2 => k_asm); (case k3 => k_asm); (case k4 => k_asm); (case k5 => k_asm); (case k6 => k_is); (case k7 => k_is); (case k8 => ktr_room); (case k9 => first | exact BindsTo.of_eq rfl | exact binds_K (by k_in) rfl (by k_is) rfl rfl rfl); (case c5 => decide); (case kB => exact locs rfl); (case c2 => exact rfl); (case c3 => exact rfl); (case c4 => exact rfl); k_whole; refine eps3 (ne3 ne_heap ne_nat ne_heap) ((?_ : ∀ a b c, At3 _ a b c) _ _ _); intros g' L' h'; refine At3.mk ?_; intros FG' F' N' B' X' T' kG'; (try dsimp only); (try k_fold))
  obtain ⟨⟨n1, n2, n3⟩, ⟨n4, n5, n6, n7⟩, n8, n9, n10, n11, n12, n13⟩ := hpre
  dsimp only [strmSub, lexDict] at N'
  k_steps
  · (rename (c == Str.ofString "\n") = true => hc)
    (rename News g' _ _ _ => N9)
    have e9 : lnext n c = n + 1 := if_pos hc
    rw [e9] at hret
    exact hret _ _ _ (fun b o e hb => Fr.keep (by with_reducible assumption) b o (kG' b o e hb)) ⟨rfl, _, fun q hq => (N9 q hq).1⟩
  · (rename (c == Str.ofString "\n") = false => hc)
    (rename News g' _ _ _ => N9)
    have e9 : lnext n c = n := if_neg (by rw [hc]; decide)
    rw [e9] at hret
    exact hret _ _ _ (fun b o e hb => Fr.keep (by with_reducible assumption) b o (kG' b o e hb)) ⟨rfl, _, fun q hq => (N9 q hq).1⟩
theorem cl_rcharNil : ∀ (lx dx tp D rd c0 cc sg pb : Addr) (K : LK) (n : Int) (tn : Tok) (fdl fdr : FuncData) (co cco : Obj) (hsh : Int) (key : Tok) (ep : Nat) (hR : ReadOk rd c0 cc sg fdr co cco), Cl 2 101 [.ref lx] [] (strmSub lx dx tp D rd c0 cc sg pb K n tn fdl fdr co cco hsh key [] ep) (fun _ => strmApart lx dx tp D rd c0 cc sg)
      (fun v _ h' => (∃ t', v = .str (Str.ofString "") t') ∧ ∀ q ∈ strmSub lx dx tp D rd c0 cc sg pb K n tn fdl fdr co cco hsh key [] ep, h'.get? q.1 = some q.2) := by
  refine eps8 (ne8 ne_nat ne_nat ne_nat ne_nat ne_nat ne_nat ne_nat ne_nat) ((?_ : ∀ a0 a1 a2 a3 a4 a5 a6 a7, At8 _ a0 a1 a2 a3 a4 a5 a6 a7) _ _ _ _ _ _ _ _)
  intros lx dx tp D rd c0 cc sg
  refine At8.mk ?_
  refine eps8 (ne8 ne_nat (⟨⟨0, 0, 0, 0, 0, 0, 0, 0, 0⟩⟩) ne_int ne_nat (⟨default⟩) (⟨default⟩) ne_obj ne_obj) ((?_ : ∀ a0 a1 a2 a3 a4 a5 a6 a7, At8 _ a0 a1 a2 a3 a4 a5 a6 a7) _ _ _ _ _ _ _ _)
  intros pb K n tn fdl fdr co cco
  refine At8.mk ?_
  refine eps3 (ne3 ne_int ne_nat ne_nat) ((?_ : ∀ a0 a1 a2, At3 _ a0 a1 a2) _ _ _)
  intros hsh key ep
  refine At3.mk ?_
  intros hR
  k_with_none
  k_with "kne" => (refine neN ?_; (try dsimp only); first | exact Nat.ne_of_gt (by with_reducible assumption) | exact Nat.ne_of_lt (by with_reducible assumption) | with_reducible assumption | exact Ne.symm (by with_reducible assumption) | exact Nat.succ_ne_self _ | exact Ne.symm (Nat.succ_ne_self _) | (apply Nat.ne_of_gt; apply And.left; k_extra "krn"; done) | (apply Nat.ne_of_lt; apply And.left; k_extra "krn"; done) | (apply Nat.ne_of_gt; k_extra "krn"; done) | (apply Nat.ne_of_lt; k_extra "krn"; done) | k_extra "kd4" | (apply Ne.symm; k_extra "kd4") | omega)
  k_with "kd1" => first | with_reducible assumption | (apply And.left; with_reducible assumption) | (apply And.right; with_reducible assumption)
  k_with "kd2" => first | with_reducible assumption | (apply And.left; k_extra "kd1") | (apply And.right; k_extra "kd1")
  k_with "kd3" => first | with_reducible assumption | (apply And.left; k_extra "kd2") | (apply And.right; k_extra "kd2")
  k_with "kd4" => first | with_reducible assumption | (apply And.left; k_extra "kd3") | (apply And.right; k_extra "kd3")
  k_with "krn" => ((iterate 19 (first | done | with_reducible assumption | apply And.right)); done)
  k_with "omg" => first | exact Mine.room2 (by with_reducible assumption) rfl | exact Mine.units2 (by with_reducible assumption) cLine_is rfl | ((repeat (rename @Ne Nat _ _ => z9w; clear z9w)); (repeat (rename @Ne Nat _ _ ∧ _ => z9w; clear z9w)); (repeat (rename (@Ne Nat _ _ ∧ _) ∧ _ => z9w; clear z9w)); omega +splitDisjunctions)
  k_with "getMethod ref" => (k_here; (with_reducible show wpAny _ _ (getMethod (Value.ref _) (Str.ofString "read") _) _ _ _); k_dflt (refine' fn_method_K ?N ?a ?b ?_; (case N => k_asm); (case a => k_mem); (case b => k_mem); k_whole))
  k_with "callWith ref" => (k_here; k_dflt (refine' callWith_F ?k1 ?_; (case k1 => exact FnAt.of (by k_asm) (by k_mem)); k_whole))
  k_with "call ref" => ((with_reducible show wpAny _ _ (PySem.call (Value.ref _) [Value.int 1 _] []) _ _ _); k_dflt (first
    | (refine' use_read (by assumption) ?k1 ?k2 ?k3 ?k4 ?k5 ?k6 ?m4 ?hz ?m1 ?m2 ?m3 ?U ?ne ?kd ?ku ?_; (case k1 => k_asm); (case k2 => k_asm); (case k3 => k_asm); (case k4 => k_asm); (case k5 => first | exact rfl | assumption); (case k6 => k_asm); (case m4 => k_mem); (case hz => omega); (case m1 => k_mem); (case m2 => k_mem); (case m3 => k_mem); (case U => k_upd); (case ne => refine ⟨?_, ?_, ?_⟩ <;> omega); (case kd => ktr_room); (case ku => ktr_units); intro h9w tk9w F9w N9w)
    | (refine' use_readNil (by assumption) ?k1 ?k2 ?k3 ?k4 ?k5 ?k6 ?m4 ?m1 ?m2 ?m3 ?ne ?kd ?ku ?_; (case k1 => k_asm); (case k2 => k_asm); (case k3 => k_asm); (case k4 => k_asm); (case k5 => first | exact rfl | assumption); (case k6 => k_asm); (case m4 => k_mem); (case m1 => k_mem); (case m2 => k_mem); (case m3 => k_mem); (case ne => refine ⟨?_, ?_, ?_⟩ <;> omega); (case kd => ktr_room); (case ku => ktr_units); intro t9w h9w tk9w F9w N9w)); (try dsimp only); (try k_fold); walk_say "CONTRACT")
  w_top off
  unfold Cl
  k_fill
  refine eps23 ne_cx ((?_ : ∀ w p loose mean mg mb dp un gd cn cs a ccd cl outer A₀ base h₀ L m s Q E, At23 _ w p loose mean mg mb dp un gd cn cs a ccd cl outer A₀ base h₀ L m s Q E) _ _ _ _ _ _ _ _ _ _ _ _ _ _ _ _ _ _ _ _ _ _ _)
  intros w p loose mean mg mb dp un gd cn cs a ccd cl outer A₀ base h₀ L m s Q E
  refine At23.mk ?_
  intros B F X T hk N hpre hd hu hret
  k_dflt (refine' code_defG ?k1 ?k2 ?k3 ?k4 ?k5 ?kA ?kF ?kK ?k6 ?k7 ?k8 ?k9 ?kB ?_ ?c2 ?c3 ?c4 ?c5; (case kA => exact rfl); (case kF => exact rfl); (case kK => assumption); (case k1 => k_asm); (case k2 => k_asm); (case k3 => k_asm); (case k4 => k_asm); (case k5 => k_asm); (case k6 => k_is); (case k7 => k_is); (case k8 => ktr_room); (case k9 => first | exact BindsTo.of_eq rfl | exact binds_K (by k_in) rfl (by k_is) rfl rfl rfl); (case c5 => decide); (case kB => exact locs rfl); (case c2 => exact rfl); (case c3 => exact rfl); (case c4 => exact rfl); k_whole; refine eps3 (ne3 ne_heap ne_nat ne_heap) ((?_ : ∀ a b c, At3 _ a b c) _ _ _); intros g' L' h'; refine At3.mk ?_; intros FG' F' N' B' X' T' kG'; (try dsimp only); (try k_fold))
  obtain ⟨⟨n1, n2, n3⟩, ⟨n4, n5, n6, n7⟩, n8, n9, n10, n11, n12, n13⟩ := hpre
  dsimp only [strmSub, lexDict] at N'
  k_steps
  (rename News g' _ _ _ => N9)
  exact hret _ _ _ (fun b o e hb => Fr.keep (by with_reducible assumption) b o (kG' b o e hb)) ⟨⟨_, rfl⟩, fun q hq => (N9 q hq).1⟩
section
variable {w : World} {p : Program} {loose : List Str} {mean : ExcName → Option Value} {mg mb : Str → Option Value} {dp un : Nat} {gd : Option (List Code)} {cn : Str} {sc : Scope} {a : Addr} {ccd : Value} {cl : List (Str × Addr)} {outer : List Env} {A₀ : Around} {base h₀ : Heap} {L : Addr} {m : Str → Option Value} {s : Shared} {Q E : Value → Shared → Prop} {news mid : Led} {g : Obj → Led}
variable {lx dx tp D rd c0 cc sg pb : Addr} {K : LK} {n : Int} {tn : Tok} {fdl fdr : FuncData} {co cco : Obj} {hsh : Int} {key : Tok} {c : Str} {tc : Tok} {xs : List Value} {ep : Nat}
theorem code_rchar (R : ReadOk rd c0 cc sg fdr co cco)
    (B : Below A₀ base outer h₀) (F : Fr h₀ L s.heap m) (X : (hd.heap_1 w.params).In h₀) (T : Top p loose mean mg mb h₀) (hk : sc.kind = .function) (N : News h₀ L s.heap news)
    (m1 : (lx, instObj 118 dx) ∈ news) (m2 : (dx, lexDict K n tn tp pb) ∈ news) (m3 : (tp, fnObj (some D) fdl #[]) ∈ news) (m4 : (D, dictOf [⟨hsh, .str (Str.ofString "read") key, .ref rd⟩] 1) ∈ news)
    (m5 : (rd, fnObj none fdr #[]) ∈ news) (m6 : (c0, co) ∈ news) (m7 : (cc, cco) ∈ news) (m8 : (sg, W.listOf (.str c tc :: xs).toArray ep) ∈ news) (hz : xs.length < 1000)
    (U : Upd sg (W.listOf (.str c tc :: xs).toArray ep) (W.listOf xs.toArray (ep + 1)) news mid) (V : UpdF dx (lexDict K n tn tp pb) mid g) (ne : strmApart lx dx tp D rd c0 cc sg) (hd : dp + 2 < recursionLimit) (hu : un + 20 * 2 < cLine)
    (ret : ∀ tn' h' tk', Fr h₀ L h' m → News h₀ L h' (g (lexDict K (lnext n c) tn' tp pb)) → Q (.str c tc) { s with heap := h', toks := tk' }) :
    codeAny (model Challenge.rw_wj0057_01.row.prog w) (ktrTop dp un gd cn sc L a ccd cl outer) (.call (.ref 101) ⟨[.ref lx], []⟩) (fun r s' => match r with | .ok (.ret v) => Q v s' | .ok _ => False | .error e => E e s') s := by
  have hs : ∀ q ∈ strmSub lx dx tp D rd c0 cc sg pb K n tn fdl fdr co cco hsh key (.str c tc :: xs) ep, q ∈ news := by
    intro q hq
    simp only [List.mem_cons, List.not_mem_nil, or_false] at hq
    rcases hq with rfl | rfl | rfl | rfl | rfl | rfl | rfl | rfl <;> assumption
  refine cl_code (cl_rchar lx dx tp D rd c0 cc sg pb K n tn fdl fdr co cco hsh key c tc xs ep R hz) B F X T hk N hs ne hd hu fun v h' tk' F' k hp => ?_
  obtain ⟨rfl, tn', e1⟩ := hp
  obtain ⟨pre, post, hm, hg, a1, a2⟩ := V.split
  have V' : Upd dx (lexDict K n tn tp pb) (lexDict K (lnext n c) tn' tp pb) mid (g (lexDict K (lnext n c) tn' tp pb)) := by
    rw [hm, hg]
    clear hg hm V
    induction pre with
    | nil => exact Upd.head a2
    | cons x r ih => exact Upd.tail (a1 x (.head _)) (ih fun q hq => a1 q (.tail _ hq))
  refine ret tn' h' tk' F' (led_upd2 N hs k U V' (Ne.symm ne.1.2.2) (e1 (sg, _) (by simp)) (e1 (dx, _) (by simp)) fun q hq h1 h2 => e1 q ?_)
  simp only [List.mem_cons, List.not_mem_nil, or_false] at hq ⊢
  rcases hq with rfl | rfl | rfl | rfl | rfl | rfl | rfl | rfl
  · exact .inl rfl
  · exact absurd rfl h2
  · exact .inr (.inr (.inl rfl))
  · exact .inr (.inr (.inr (.inl rfl)))
  · exact .inr (.inr (.inr (.inr (.inl rfl))))
  · exact .inr (.inr (.inr (.inr (.inr (.inl rfl)))))
  · exact .inr (.inr (.inr (.inr (.inr (.inr (.inl rfl))))))
  · exact absurd rfl h1
theorem use_rchar (R : ReadOk rd c0 cc sg fdr co cco)
    (B : Below A₀ base outer h₀) (F : Fr h₀ L s.heap m) (X : (hd.heap_1 w.params).In h₀) (T : Top p loose mean mg mb h₀) (hk : sc.kind = .function) (N : News h₀ L s.heap news)
    (m1 : (lx, instObj 118 dx) ∈ news) (m2 : (dx, lexDict K n tn tp pb) ∈ news) (m3 : (tp, fnObj (some D) fdl #[]) ∈ news) (m4 : (D, dictOf [⟨hsh, .str (Str.ofString "read") key, .ref rd⟩] 1) ∈ news)
    (m5 : (rd, fnObj none fdr #[]) ∈ news) (m6 : (c0, co) ∈ news) (m7 : (cc, cco) ∈ news) (m8 : (sg, W.listOf (.str c tc :: xs).toArray ep) ∈ news) (hz : xs.length < 1000)
    (U : Upd sg (W.listOf (.str c tc :: xs).toArray ep) (W.listOf xs.toArray (ep + 1)) news mid) (V : UpdF dx (lexDict K n tn tp pb) mid g) (ne : strmApart lx dx tp D rd c0 cc sg) (hd : dp + 2 < recursionLimit) (hu : un + 20 * 2 < cLine)
    (ret : ∀ tn' h' tk', Fr h₀ L h' m → News h₀ L h' (g (lexDict K (lnext n c) tn' tp pb)) → Q (.str c tc) { s with heap := h', toks := tk' }) :
    wpAny (model Challenge.rw_wj0057_01.row.prog w) (ktrTop dp un gd cn sc L a ccd cl outer) (call (.ref 101) [.ref lx] []) Q E s :=
  wpAny_call (code_rchar R B F X T hk N m1 m2 m3 m4 m5 m6 m7 m8 hz U V ne hd hu ret)
theorem code_rcharNil (R : ReadOk rd c0 cc sg fdr co cco)
    (B : Below A₀ base outer h₀) (F : Fr h₀ L s.heap m) (X : (hd.heap_1 w.params).In h₀) (T : Top p loose mean mg mb h₀) (hk : sc.kind = .function) (N : News h₀ L s.heap news)
    (m1 : (lx, instObj 118 dx) ∈ news) (m2 : (dx, lexDict K n tn tp pb) ∈ news) (m3 : (tp, fnObj (some D) fdl #[]) ∈ news) (m4 : (D, dictOf [⟨hsh, .str (Str.ofString "read") key, .ref rd⟩] 1) ∈ news)
    (m5 : (rd, fnObj none fdr #[]) ∈ news) (m6 : (c0, co) ∈ news) (m7 : (cc, cco) ∈ news) (m8 : (sg, W.listOf ([] : List Value).toArray ep) ∈ news)
    (ne : strmApart lx dx tp D rd c0 cc sg) (hd : dp + 2 < recursionLimit) (hu : un + 20 * 2 < cLine)
    (ret : ∀ t' h' tk', Fr h₀ L h' m → News h₀ L h' news → Q (.str (Str.ofString "") t') { s with heap := h', toks := tk' }) :
    codeAny (model Challenge.rw_wj0057_01.row.prog w) (ktrTop dp un gd cn sc L a ccd cl outer) (.call (.ref 101) ⟨[.ref lx], []⟩) (fun r s' => match r with | .ok (.ret v) => Q v s' | .ok _ => False | .error e => E e s') s := by
  have hs : ∀ q ∈ strmSub lx dx tp D rd c0 cc sg pb K n tn fdl fdr co cco hsh key [] ep, q ∈ news := by
    intro q hq
    simp only [List.mem_cons, List.not_mem_nil, or_false] at hq
    rcases hq with rfl | rfl | rfl | rfl | rfl | rfl | rfl | rfl <;> assumption
  refine cl_code (cl_rcharNil lx dx tp D rd c0 cc sg pb K n tn fdl fdr co cco hsh key ep R) B F X T hk N hs ne hd hu fun v h' tk' F' k hp => ?_
  obtain ⟨⟨t', rfl⟩, e1⟩ := hp
  exact ret t' h' tk' F' (led_same N hs k e1)
theorem use_rcharNil (R : ReadOk rd c0 cc sg fdr co cco)
    (B : Below A₀ base outer h₀) (F : Fr h₀ L s.heap m) (X : (hd.heap_1 w.params).In h₀) (T : Top p loose mean mg mb h₀) (hk : sc.kind = .function) (N : News h₀ L s.heap news)
    (m1 : (lx, instObj 118 dx) ∈ news) (m2 : (dx, lexDict K n tn tp pb) ∈ news) (m3 : (tp, fnObj (some D) fdl #[]) ∈ news) (m4 : (D, dictOf [⟨hsh, .str (Str.ofString "read") key, .ref rd⟩] 1) ∈ news)
    (m5 : (rd, fnObj none fdr #[]) ∈ news) (m6 : (c0, co) ∈ news) (m7 : (cc, cco) ∈ news) (m8 : (sg, W.listOf ([] : List Value).toArray ep) ∈ news)
    (ne : strmApart lx dx tp D rd c0 cc sg) (hd : dp + 2 < recursionLimit) (hu : un + 20 * 2 < cLine)
    (ret : ∀ t' h' tk', Fr h₀ L h' m → News h₀ L h' news → Q (.str (Str.ofString "") t') { s with heap := h', toks := tk' }) :
    wpAny (model Challenge.rw_wj0057_01.row.prog w) (ktrTop dp un gd cn sc L a ccd cl outer) (call (.ref 101) [.ref lx] []) Q E s :=
  wpAny_call (code_rcharNil R B F X T hk N m1 m2 m3 m4 m5 m6 m7 m8 ne hd hu ret)
end
end Mine
-- CIter
namespace Mine
open PySem.Builtin
noncomputable abbrev ciObj (f sv : Value) (e : Bool) : Obj := { cls := .type "callable_iterator", data := .fields #[f, sv, .bool e] }
section
variable {prog : Program} {w : World} {A : Around} {E : Value → Shared → Prop} {s : Shared} {mo I : Addr} {f self sv : Value}
theorem ci_kind : builtinKind "iter" = none := by decide +kernel
theorem ci_plain : plainId "iter" = true := by decide +kernel
theorem ci_entry : entryFor table "iter" = some Builtin.«iter» := entryFor_of_tree (by kernel_rfl)
theorem ci_args (a b : Value) : argsOk "iter" ⟨[a, b], []⟩ := by unfold argsOk; kernel_rfl
theorem ci_look_call : typeLookup (.type "method") "__call__" = pure (some (.builtin "method.__call__")) := by rw [typeLookup_type, builtinLookup_eq_fast]; kernel_rfl
noncomputable abbrev ciSpec (mo : Addr) (f self sv : Value) : PySem.Spec := fun _ R s => s.heap.get? mo = some (methodObj f self) ∧ R (.ok (.ret (.ref s.heap.objs.size))) { s with heap := s.heap.push (ciObj (.ref mo) sv false) }
theorem ci_meets : Meets (Builtin.«iter» ⟨[.ref mo, sv], []⟩) (ciSpec mo f self sv) := by
  refine .of_wp fun prog w A R s hS => ?_
  obtain ⟨hmo, h⟩ := hS
  unfold Builtin.«iter»
  show wpAny _ _ (PySem.specialOf (.ref mo) "__call__" >>= _) _ _ _
  refine wpAny_bind (wpAny_specialOf (T := "method") ⟨_, hmo, rfl⟩ ci_look_call ?_)
  refine wpAny_bind (wpAny_rule (wpAny_bind (wpAny_newObj_type ?_ (by first | size_fits | trivial))))
  exact wpAny_pure ⟨_, rfl, h⟩
theorem ci_new {Q : Value → Shared → Prop} (hmo : s.heap.get? mo = some (methodObj f self)) (h : Q (.ref s.heap.objs.size) { s with heap := s.heap.push (ciObj (.ref mo) sv false) }) :
    wpAny (model prog w) A (call (.builtin "iter") [.ref mo, sv]) Q E s :=
  call_function_meets ci_kind ci_plain ci_entry (ci_args _ _) ci_meets ⟨hmo, h⟩
theorem ci_slot_next : Slot "callable_iterator" "__next__" "callable_iterator.__next__" := .of (owner := "callable_iterator") (n := "__next__") (by rw [typeLookup_type, builtinLookup_eq_fast]; kernel_rfl) (by decide +kernel) (by decide +kernel) (by decide +kernel)
    (by first | exact .inl (by decide +kernel) | exact .inr (by decide +kernel)) (by rw [isSubtype_type]; kernel_rfl)
theorem ci_look_iter : typeLookup (.type "callable_iterator") "__iter__" = pure (some (.builtin "callable_iterator.__iter__")) := by rw [typeLookup_type, builtinLookup_eq_fast]; kernel_rfl
theorem ci_entry_next : entryFor table "callable_iterator.__next__" = some Builtin.«callable_iterator.__next__» := entryFor_of_tree (by kernel_rfl)
theorem ci_args_next (a : Value) : argsOk "callable_iterator.__next__" ⟨[a], []⟩ := by unfold argsOk; kernel_rfl
theorem ci_slot_iter : Slot "callable_iterator" "__iter__" "callable_iterator.__iter__" := .of (owner := "callable_iterator") (n := "__iter__") ci_look_iter (by decide +kernel) (by decide +kernel) (by decide +kernel)
    (by first | exact .inl (by decide +kernel) | exact .inr (by decide +kernel)) (by rw [isSubtype_type]; kernel_rfl)
theorem ci_entry_iter : entryFor table "callable_iterator.__iter__" = some Builtin.«dict_keyiterator.__iter__» :=
  entryFor_alias (id' := "dict_keyiterator.__iter__") (by kernel_rfl) rfl (by decide +kernel) (by kernel_rfl)
theorem ci_args_iter (a : Value) : argsOk "callable_iterator.__iter__" ⟨[a], []⟩ := by unfold argsOk; kernel_rfl
theorem ci_pyIter {Q : Value → Shared → Prop} {e : Bool} (hI : s.heap.get? I = some (ciObj f sv e)) (h : Q (.ref I) s) : wpAny (model prog w) A (pyIter (.ref I)) Q E s := by
  have hT : s.TypeIs (.ref I) "callable_iterator" := ⟨_, hI, rfl⟩
  refine wpAny_pyIter_slot hT ci_slot_iter (wpAny_call_entry ci_slot_iter hT ci_entry_iter ?_ (ci_args_iter _))
  show wpAny _ _ (ret (.ref I)) _ _ s
  exact wpAny_pure ⟨_, rfl, "callable_iterator", _, hT, ci_slot_next.lookup, h⟩
theorem ci_borrows {M : Model} {fa : Addr} {fd : FuncData} {oc : Value} {od : Option Addr} {sl : Array (Option Value)} {Q : Bool → Shared → Prop} (hmo : s.heap.get? mo = some (methodObj (.ref fa) self)) (hf : s.heap.get? fa = some ⟨oc, od, .func fd, sl⟩) (h : Q true s) :
    wpAny M A (borrowsExactly (.ref mo)) Q E s := by
  unfold borrowsExactly
  refine wpAny_bind (wpAny_load hmo ?_)
  dsimp only
  rw [if_pos (by rfl)]
  exact wpAny_bind (wpAny_load hf (wpAny_pure h))
theorem ci_borrowed {M : Model} {f : Value} {pos : List Value} {Q : Value → Shared → Prop}
    (hc : codeAny M A (.call f ⟨pos, []⟩) (fun r s' => match r with | .ok (.ret v) => Q v s' | .ok _ => False | .error e => E e s') s) : wpAny M A (callBorrowed f pos) Q E s := fun Γ p hΓ => by
  unfold callBorrowed
  rw [Sem.wp_call]
  refine wpCode_mono (fun r s' z => ?_) (hc _ p rfl (hΓ.enter _ none p (by intro x; cases x)))
  rcases r with e | (_ | _ | _ | v)
  · exact z
  · exact z.elim
  · exact z.elim
  · exact z.elim
  · exact z
theorem ci_outOf {fa : Addr} {fd : FuncData} {oc : Value} {od : Option Addr} {sl : Array (Option Value)} {Q : Value → Shared → Prop} (hmo : s.heap.get? mo = some (methodObj (.ref fa) self)) (hf : s.heap.get? fa = some ⟨oc, od, .func fd, sl⟩)
    (hc : codeAny (model prog w) A (.call (.ref fa) ⟨[self], []⟩) (fun r s' => match r with | .ok (.ret v) => Q v s' | .ok _ => False | .error e => E e s') s) :
    wpAny (model prog w) A (callOutOfASlot (.ref mo)) Q E s := by
  unfold callOutOfASlot
  refine wpAny_bind (ci_borrows hmo hf ?_)
  rw [if_pos rfl]
  exact ci_borrowed (method_call hmo hc)
theorem ci_item {fa : Addr} {fd : FuncData} {oc : Value} {od : Option Addr} {sl : Array (Option Value)} {x : Str} {t tv : Tok} {Q : Option Value → Shared → Prop}
    (hI : s.heap.get? I = some (ciObj (.ref mo) (.str (Str.ofString "") tv) false)) (hmo : s.heap.get? mo = some (methodObj (.ref fa) self)) (hf : s.heap.get? fa = some ⟨oc, od, .func fd, sl⟩)
    (hcall : codeAny (model prog w) A.in1 (.call (.ref fa) ⟨[self], []⟩) (fun r s' => match r with | .ok (.ret v) => v = .str x t ∧ x ≠ Str.ofString "" ∧ s'.heap.get? I = some (ciObj (.ref mo) (.str (Str.ofString "") tv) false) ∧ Q (some (.str x t)) s' | .ok _ => False | .error e => (fun _ _ => False : Value → Shared → Prop) e s') s) :
    wpAny (model prog w) A (pyNext (.ref I)) Q E s := by
  have hT : s.TypeIs (.ref I) "callable_iterator" := ⟨_, hI, rfl⟩
  unfold pyNext
  refine wpAny_bind (wpAny_attempt (wpAny_callSpecial?_slot (name := Str.ofString "__next__") hT ci_slot_next
    (wpAny_call_entry ci_slot_next hT ci_entry_next ?_ (ci_args_next _))))
  unfold Builtin.«callable_iterator.__next__»
  refine wpAny_bind (wpAny_bind (wpAny_pure (wpAny_pure ?_)))
  dsimp only
  refine wpAny_bind (wpAny_field hI rfl (x := .bool false) rfl ?_)
  rw [if_neg (by decide)]
  refine wpAny_bind (wpAny_field hI rfl (x := .ref mo) rfl (wpAny_bind (wpAny_attempt (ci_outOf hmo hf (codeAny_mono hcall fun r s' z => ?_)))))
  rcases r with e | (_ | _ | _ | v)
  · exact z.elim
  · exact z.elim
  · exact z.elim
  · exact z.elim
  obtain ⟨rfl, hx, hI', hQ⟩ := z
  dsimp only
  refine wpAny_bind (wpAny_field hI' rfl (x := .bool false) rfl ?_)
  rw [if_neg (by decide)]
  refine wpAny_bind (wpAny_field hI' rfl (x := .str (Str.ofString "") tv) rfl (wpAny_bind (wpAny_holding ?_)))
  refine wpAny_eqBool_str ?_
  rw [decide_eq_false (Ne.symm hx), if_pos (by decide)]
  exact wpAny_pure ⟨_, rfl, wpAny_pure hQ⟩
noncomputable abbrev ciEnd (I mo fa : Addr) (self : Value) (tv : Tok) (fo : Obj) (Q : Option Value → Shared → Prop) (v : Value) (s' : Shared) : Prop :=
  (∃ t, v = .str (Str.ofString "") t) ∧ s'.heap.get? I = some (ciObj (.ref mo) (.str (Str.ofString "") tv) false) ∧ s'.heap.get? mo = some (methodObj (.ref fa) self) ∧ s'.heap.get? fa = some fo ∧
    ∀ (h' : Heap) (tk' : Nat), (∀ b o, b ≠ I → s'.heap.get? b = some o → h'.get? b = some o) → Q none { s' with heap := h', toks := tk' }
theorem ci_end {fa : Addr} {fd : FuncData} {oc : Value} {od : Option Addr} {sl : Array (Option Value)} {tv : Tok} {Q : Option Value → Shared → Prop} (hh : A.handled = none)
    (hI : s.heap.get? I = some (ciObj (.ref mo) (.str (Str.ofString "") tv) false)) (hmo : s.heap.get? mo = some (methodObj (.ref fa) self)) (hf : s.heap.get? fa = some ⟨oc, od, .func fd, sl⟩)
    (hcall : codeAny (model prog w) A.in1 (.call (.ref fa) ⟨[self], []⟩) (fun r s' => match r with | .ok (.ret v) => ciEnd I mo fa self tv ⟨oc, od, .func fd, sl⟩ Q v s' | .ok _ => False | .error e => (fun _ _ => False : Value → Shared → Prop) e s') s) :
    wpAny (model prog w) A (pyNext (.ref I)) Q E s := by
  have hT : s.TypeIs (.ref I) "callable_iterator" := ⟨_, hI, rfl⟩
  unfold pyNext
  refine wpAny_bind (wpAny_attempt (wpAny_callSpecial?_slot (name := Str.ofString "__next__") hT ci_slot_next
    (wpAny_call_entry ci_slot_next hT ci_entry_next ?_ (ci_args_next _))))
  unfold Builtin.«callable_iterator.__next__»
  refine wpAny_bind (wpAny_bind (wpAny_pure (wpAny_pure ?_)))
  dsimp only
  refine wpAny_bind (wpAny_field hI rfl (x := .bool false) rfl ?_)
  rw [if_neg (by decide)]
  refine wpAny_bind (wpAny_field hI rfl (x := .ref mo) rfl (wpAny_bind (wpAny_attempt (ci_outOf hmo hf (codeAny_mono hcall fun r s' z => ?_)))))
  rcases r with e | (_ | _ | _ | v)
  · exact z.elim
  · exact z.elim
  · exact z.elim
  · exact z.elim
  obtain ⟨⟨t, rfl⟩, hI', hmo', hf', hQ⟩ := z
  dsimp only
  refine wpAny_bind (wpAny_field hI' rfl (x := .bool false) rfl ?_)
  rw [if_neg (by decide)]
  refine wpAny_bind (wpAny_field hI' rfl (x := .str (Str.ofString "") tv) rfl (wpAny_bind (wpAny_holding ?_)))
  refine wpAny_eqBool_str ?_
  rw [decide_eq_true rfl, if_neg (by decide)]
  refine wpAny_bind (wpAny_rule (wpAny_bind ?_))
  refine wpAny_bind (wpAny_field hI' rfl (x := .ref mo) rfl (wpAny_bind ?_))
  unfold slotLetsGo
  refine wpAny_bind (ci_borrows hmo' hf' ?_)
  rw [if_pos rfl]
  refine wpAny_pure ?_
  have g1 := Heap.get?_update_self (Obj.mapFields (·.setIfInBounds 0 .none)) hI' rfl
  refine wpAny_bind (wpAny_setField hI' rfl (by simp) ?_)
  have g2 := Heap.get?_update_self (Obj.mapFields (·.setIfInBounds 1 .none)) g1 rfl
  refine wpAny_bind (wpAny_setField g1 rfl (by simp) ?_)
  refine wpAny_setField g2 rfl (by simp) ?_
  show wpAny _ _ (newExc (.type "StopIteration") [] >>= _) _ _ _
  refine wpAny_bind ?_
  simp only [newExc, newTuple]
  refine wpAny_bind (wpAny_newObj_type ?_ (by size_fits))
  refine wpAny_bind (m := firstArgMember _ _) (wpAny_of_eq (a := Value.none) (by first | rfl | (simp only [firstArgMember]; rfl)) ?_)
  refine wpAny_newObj_type ?_ (by size_fits)
  simp only [raiseNew]
  refine wpAny_bind (wpAny_handled ?_)
  rw [show A.in1.handled = none from hh]
  refine wpAny_bind (wpAny_pure (wpAny_throw ?_))
  refine wpAny_bind (wpAny_isInstance (T := "StopIteration") (b := true) ⟨_, Heap.get?_push_size _ rfl, rfl⟩ isSubtype_stop ?_)
  rw [if_pos rfl]
  refine wpAny_pure (hQ _ _ fun b o hb e => ?_)
  refine Heap.get?_push_of_some _ (Heap.get?_push_of_some _ ?_)
  exact (Heap.get?_update_ne _ _ _ _ hb).trans ((Heap.get?_update_ne _ _ _ _ hb).trans ((Heap.get?_update_ne _ _ _ _ hb).trans e))
end
end Mine
-- LexFor
namespace Mine
/-- signs as values, whatever their tokens -/
inductive Chars : List Value → List Nat → Prop
  | nil : Chars [] []
  | cons {vs : List Value} {cs : List Nat} (c : Nat) (t : Tok) : Chars vs cs → Chars (.str ⟨#[c]⟩ t :: vs) (c :: cs)
theorem Chars.length : ∀ {vs : List Value} {cs : List Nat}, Chars vs cs → vs.length = cs.length
  | _, _, .nil => rfl
  | _, _, .cons c t h => by rw [List.length_cons, List.length_cons, h.length]
noncomputable abbrev txtN (cs : List Nat) : Str := ⟨cs.toArray⟩
noncomputable def nls (cs : List Nat) : Int := (cs.countP (· == 10) : Nat)
theorem nls_cons (c : Nat) (cs : List Nat) : nls (c :: cs) = nls cs + if c = 10 then 1 else 0 := by
  unfold nls
  rw [List.countP_cons]
  by_cases h : c = 10 <;> simp [h]
theorem lnext_eq (n : Int) (c : Nat) : lnext n ⟨#[c]⟩ = n + if c = 10 then 1 else 0 := by
  unfold lnext
  by_cases h : c = 10
  · subst h; rw [if_pos (by decide), if_pos rfl]
  · rw [if_neg, if_neg h]; · omega
    intro e
    have e1 : (⟨#[c]⟩ : Str) = Str.ofString "\n" := eq_of_beq e
    have e2 : Str.ofString "\n" = ⟨#[10]⟩ := by decide
    rw [e2] at e1
    injection e1 with e1
    simp at e1
    exact h e1
/-- the parts of a lexer's stream in the ledger; the push-back list stands by -/
noncomputable abbrev lexLed (lx dx tp D rd c0 cc sg pb mo : Addr) (K : LK) (fdl fdr : FuncData) (co cco : Obj) (hsh : Int) (key : Tok) (wp : List Value) (epb : Nat) (n : Int) (tn : Tok) (vs : List Value) (ep : Nat) : Led :=
  (mo, methodObj (.ref 101) (.ref lx)) :: (pb, W.listOf wp.toArray epb) :: strmSub lx dx tp D rd c0 cc sg pb K n tn fdl fdr co cco hsh key vs ep
noncomputable abbrev lexApart (lx dx tp D rd c0 cc sg pb mo : Addr) : Prop := strmApart lx dx tp D rd c0 cc sg ∧ (@Ne Nat mo dx ∧ @Ne Nat mo sg ∧ @Ne Nat pb dx ∧ @Ne Nat pb sg)
section
variable {lx dx tp D rd c0 cc sg pb mo I : Addr} {K : LK} {fdl fdr : FuncData} {co cco : Obj} {hsh : Int} {key : Tok} {wp : List Value} {epb : Nat}
/-- what holds amid a walk over the signs: cs are left, tok is gathered -/
noncomputable def LexAt (h₀ : Heap) (L : Addr) (m₀ : Str → Option Value) (lg : Int → Tok → List Value → Nat → Led) (N : Int) (cs tok : List Nat) (s₁ s₂ : Shared) : Prop :=
  ∃ h tk m vs n tn tt ep, s₂ = { s₁ with heap := h, toks := tk } ∧ Fr h₀ L h m ∧ News h₀ L h (lg n tn vs ep) ∧ Chars vs cs ∧ n + nls cs = N ∧ m (Str.ofString "token") = some (.str (txtN tok) tt) ∧ ∀ z, z ≠ Str.ofString "ch" → z ≠ Str.ofString "token" → m z = m₀ z
theorem LexAt.intro {h₀ : Heap} {L : Addr} {m₀ m : Str → Option Value} {lg : Int → Tok → List Value → Nat → Led} {N : Int} {cs tok : List Nat} {s₁ : Shared} {h : Heap} {tk : Nat} {vs : List Value} {n : Int} {tn tt : Tok} {ep : Nat}
    (F : Fr h₀ L h m) (Nw : News h₀ L h (lg n tn vs ep)) (C : Chars vs cs) (hn : n + nls cs = N) (ht : m (Str.ofString "token") = some (.str (txtN tok) tt)) (hm : ∀ z, z ≠ Str.ofString "ch" → z ≠ Str.ofString "token" → m z = m₀ z) :
    LexAt h₀ L m₀ lg N cs tok s₁ { s₁ with heap := h, toks := tk } := ⟨h, tk, m, vs, n, tn, tt, ep, rfl, F, Nw, C, hn, ht, hm⟩
/-- the end of a turn -/
noncomputable def LexTurn (h₀ : Heap) (L : Addr) (m₀ : Str → Option Value) (lg : Int → Tok → List Value → Nat → Led) (N : Int) (P : List Nat → List Nat → Prop) (k : Nat) (s₁ : Shared) (Q : Flow → Shared → Prop) (f : Flow) (s₂ : Shared) : Prop :=
  match f with
  | .next | .cont => ∃ cs tok, cs.length ≤ k ∧ P cs tok ∧ LexAt h₀ L m₀ lg N cs tok s₁ s₂
  | .brk => False
  | .ret v => Q (.ret v) s₂
theorem LexTurn.againC {h₀ : Heap} {L : Addr} {m₀ : Str → Option Value} {lg : Int → Tok → List Value → Nat → Led} {N : Int} {P : List Nat → List Nat → Prop} {k : Nat} {s₁ s₂ : Shared} {Q : Flow → Shared → Prop} {cs tok : List Nat} (hk : cs.length ≤ k) (hp : P cs tok) (hl : LexAt h₀ L m₀ lg N cs tok s₁ s₂) :
    LexTurn h₀ L m₀ lg N P k s₁ Q .cont s₂ := ⟨cs, tok, hk, hp, hl⟩
theorem LexTurn.againN {h₀ : Heap} {L : Addr} {m₀ : Str → Option Value} {lg : Int → Tok → List Value → Nat → Led} {N : Int} {P : List Nat → List Nat → Prop} {k : Nat} {s₁ s₂ : Shared} {Q : Flow → Shared → Prop} {cs tok : List Nat} (hk : cs.length ≤ k) (hp : P cs tok) (hl : LexAt h₀ L m₀ lg N cs tok s₁ s₂) :
    LexTurn h₀ L m₀ lg N P k s₁ Q .next s₂ := ⟨cs, tok, hk, hp, hl⟩
theorem fn_at {K : Frag} {h : Heap} {f : Addr} (e : fnIn K f = true) (X : K.In h) : ∃ fd oc od sl, h.get? f = some ⟨oc, od, .func fd, sl⟩ := by
  unfold fnIn at e
  split at e
  · rename_i hl; exact ⟨_, _, _, _, X _ _ hl⟩
  · cases e
theorem fn101 (w : World) : fnIn (hd.heap_1 w.params) 101 = true := by kernel_rfl
variable {w : World} {p : Program} {loose : List Str} {mean : ExcName → Option Value} {mg mb : Str → Option Value} {dp un : Nat} {gd : Option (List Code)} {cn : Str} {sc : Scope} {a : Addr} {ccd : Value} {cl : List (Str × Addr)} {outer : List Env} {A₀ : Around} {base h₀ : Heap} {L : Addr} {m₀ : Str → Option Value} {s : Shared} {Q : Flow → Shared → Prop} {E : Value → Shared → Prop}
theorem lex_for (R : ReadOk rd c0 cc sg fdr co cco) (B : Below A₀ base outer h₀) (X : (hd.heap_1 w.params).In h₀) (T : Top p loose mean mg mb h₀) (hk : sc.kind = .function) (ne : lexApart lx dx tp D rd c0 cc sg pb mo) (hI : ∀ b ∈ [mo, pb, lx, dx, tp, D, rd, c0, cc, sg], @Ne Nat b I)
    (hd : dp + 2 < recursionLimit) (hu : un + 50 < cLine)
    {px pf pos : Pos} {body : List Stmt} {tv : Tok} (N : Int) (P : List Nat → List Nat → Prop) (cs₀ tok₀ : List Nat) (hlen : ∀ cs tok, P cs tok → cs.length < 1000)
    (hx : (envX cn sc L a ccd cl).kindOf (Str.ofString "ch") = some .local) (hy : (envX cn sc L a ccd cl).kindOf (Str.ofString "fiter") = some .local)
    (hP : P cs₀ tok₀) (h0 : LexAt h₀ L m₀ (fun n tn vs ep => (I, ciObj (.ref mo) (.str (Str.ofString "") tv) false) :: lexLed lx dx tp D rd c0 cc sg pb mo K fdl fdr co cco hsh key wp epb n tn vs ep) N cs₀ tok₀ s s) (hf : m₀ (Str.ofString "fiter") = some (.ref I))
    (turn : ∀ (c : Nat) (cs tok : List Nat) (t tt tn : Tok) (n : Int) (vs : List Value) (ep : Nat) h tk, P (c :: cs) tok → Chars vs cs → n + nls cs = N →
      Fr h₀ L h (fun y => if y = Str.ofString "ch" then some (.str ⟨#[c]⟩ t) else if y = Str.ofString "token" then some (.str (txtN tok) tt) else m₀ y) →
      News h₀ L h ((I, ciObj (.ref mo) (.str (Str.ofString "") tv) false) :: lexLed lx dx tp D rd c0 cc sg pb mo K fdl fdr co cco hsh key wp epb n tn vs ep) →
      wpAny (model Challenge.rw_wj0057_01.row.prog w) (ktrTop dp un gd cn sc L a ccd cl outer) (execs body (envX cn sc L a ccd cl))
        (LexTurn h₀ L m₀ (fun n tn vs ep => (I, ciObj (.ref mo) (.str (Str.ofString "") tv) false) :: lexLed lx dx tp D rd c0 cc sg pb mo K fdl fdr co cco hsh key wp epb n tn vs ep) N P cs.length { s with heap := h, toks := tk } Q) E { s with heap := h, toks := tk })
    (stop : ∀ tok s', P [] tok → LexAt h₀ L m₀ (lexLed lx dx tp D rd c0 cc sg pb mo K fdl fdr co cco hsh key wp epb) N [] tok s s' → Q .next s')
    (hE : PassesOwn (model Challenge.rw_wj0057_01.row.prog w) (ktrTop dp un gd cn sc L a ccd cl outer) (envX cn sc L a ccd cl) E := by passes_own) :
    wpAny (model Challenge.rw_wj0057_01.row.prog w) (ktrTop dp un gd cn sc L a ccd cl outer) (exec (.For (.Name (Str.ofString "ch") px) (.Name (Str.ofString "fiter") pf) body [] pos) (envX cn sc L a ccd cl)) Q E s := by
  revert hE
  revert stop
  revert turn
  revert hf
  revert h0
  revert hP
  revert hy
  revert hx
  revert hlen
  revert hu
  revert hd
  revert hI
  revert ne
  revert hk
  revert T
  revert X
  revert B
  revert R
  revert lx dx tp D rd c0 cc sg pb mo I K fdl fdr co cco hsh key wp epb w p loose mean mg mb dp un gd cn sc a ccd cl outer A₀ base h₀ L m₀ s Q E px pf pos body tv N P cs₀ tok₀
  change ∀ a0 a1 a2 a3 a4 a5 a6 a7 a8 a9 a10 a11 a12 a13 a14 a15 a16 a17 a18 a19 a20 a21 a22 a23 a24 a25 a26 a27 a28 a29 a30 a31 a32 a33 a34 a35 a36 a37 a38 a39 a40 a41 a42 a43 a44 a45 a46 a47 a48 a49 a50 a51, _
  refine eps23 (ne23 ne_nat ne_nat ne_nat ne_nat ne_nat ne_nat ne_nat ne_nat ne_nat ne_nat ne_nat (⟨⟨0, 0, 0, 0, 0, 0, 0, 0, 0⟩⟩) (⟨default⟩) (⟨default⟩) ne_obj ne_obj ne_int ne_nat ne_vals ne_nat ne_world (⟨default⟩) (⟨default⟩)) ((?_ : ∀ a0 a1 a2 a3 a4 a5 a6 a7 a8 a9 a10 a11 a12 a13 a14 a15 a16 a17 a18 a19 a20 a21 a22, At23 _ a0 a1 a2 a3 a4 a5 a6 a7 a8 a9 a10 a11 a12 a13 a14 a15 a16 a17 a18 a19 a20 a21 a22) _ _ _ _ _ _ _ _ _ _ _ _ _ _ _ _ _ _ _ _ _ _ _)
  intros lx dx tp D rd c0 cc sg pb mo I K fdl fdr co cco hsh key wp epb w p loose
  refine At23.mk ?_
  refine eps23 (ne23 (⟨default⟩) ne_map ne_map ne_nat ne_nat (⟨default⟩) (⟨default⟩) (⟨default⟩) ne_nat ne_value (⟨default⟩) (⟨default⟩) ne_around ne_heap ne_heap ne_nat ne_map ne_shared ne_post ne_post (⟨default⟩) (⟨default⟩) (⟨default⟩)) ((?_ : ∀ a0 a1 a2 a3 a4 a5 a6 a7 a8 a9 a10 a11 a12 a13 a14 a15 a16 a17 a18 a19 a20 a21 a22, At23 _ a0 a1 a2 a3 a4 a5 a6 a7 a8 a9 a10 a11 a12 a13 a14 a15 a16 a17 a18 a19 a20 a21 a22) _ _ _ _ _ _ _ _ _ _ _ _ _ _ _ _ _ _ _ _ _ _ _)
  intros mean mg mb dp un gd cn sc a ccd cl outer A₀ base h₀ L m₀ s Q E px pf pos
  refine At23.mk ?_
  refine eps4 (ne4 (⟨default⟩) ne_nat ne_int (⟨default⟩)) ((?_ : ∀ a0 a1 a2 a3, At4 _ a0 a1 a2 a3) _ _ _ _)
  intros body tv N P
  refine At4.mk ?_
  refine eps2 (ne2 (⟨[]⟩) (⟨[]⟩)) ((?_ : ∀ a0 a1, At2 _ a0 a1) _ _)
  intros cs₀ tok₀
  refine At2.mk ?_
  intros R B X T hk ne hI hd hu hlen hx hy hP h0 hf turn stop hE
  have lgI : ∀ {n tn vs ep h}, News h₀ L h ((I, ciObj (.ref mo) (.str (Str.ofString "") tv) false) :: lexLed lx dx tp D rd c0 cc sg pb mo K fdl fdr co cco hsh key wp epb n tn vs ep) → h.get? I = some (ciObj (.ref mo) (.str (Str.ofString "") tv) false) := fun N => (N _ (.head _)).1
  have lgM : ∀ {n tn vs ep h}, News h₀ L h ((I, ciObj (.ref mo) (.str (Str.ofString "") tv) false) :: lexLed lx dx tp D rd c0 cc sg pb mo K fdl fdr co cco hsh key wp epb n tn vs ep) → h.get? mo = some (methodObj (.ref 101) (.ref lx)) := fun N => (N _ (.tail _ (.head _))).1
  refine wpAny_For ?_ (fun _ => rfl)
  obtain ⟨hh, tk, m, vs, n, tn, tt, ep, es, F, Nw, C, hn, ht, hm⟩ := id h0
  have e1 : hh = s.heap := by rw [es]
  subst e1
  have hfi : m (Str.ofString "fiter") = some (.ref I) := (hm _ (by decide) (by decide)).trans hf
  refine wpAny_Name (wpAny_loadName_local hk hy F.ns hfi ?_) (by decide)
  refine ci_pyIter (lgI Nw) ?_
  refine codeAny_forLoop (fun k s' => ∃ cs tok, k = cs.length + 1 ∧ P cs tok ∧ LexAt h₀ L m₀ (fun n tn vs ep => (I, ciObj (.ref mo) (.str (Str.ofString "") tv) false) :: lexLed lx dx tp D rd c0 cc sg pb mo K fdl fdr co cco hsh key wp epb n tn vs ep) N cs tok s s') ?_ (cs₀.length + 1) ⟨cs₀, tok₀, rfl, hP, h0⟩
  rintro k s' ⟨cs, tok, rfl, hp, h', tk', m', vs', n', tn', tt', ep', rfl, F', N', C', hn', ht', hm'⟩
  have hl := hlen _ _ hp
  have hl2 := C'.length
  obtain ⟨fd9, oc9, od9, sl9, hfn0⟩ := fn_at (fn101 w) X
  have hfn := F'.keep _ _ hfn0
  have hI1 : @Ne Nat I dx := Ne.symm (hI dx (by simp))
  have hI2 : @Ne Nat I sg := Ne.symm (hI sg (by simp))
  obtain ⟨ne1, ne2, ne3, ne4, ne5⟩ := ne
  obtain ⟨⟨a1, a2, a3⟩, ⟨a4, a5, a6, a7⟩, a8, a9, a10, a11, a12, a13⟩ := id ne1
  cases C' with
  | nil =>
    refine wpAny_passesOwn hE ?_
    refine ci_end (fa := 101) (self := .ref lx) rfl (lgI N') (lgM N') hfn ?_
    refine code_rcharNil (A₀ := A₀) (base := base) (loose := loose) (mean := mean) (mg := mg) (mb := mb) (p := p) (K := K) (fdl := fdl) (hsh := hsh) (key := key) (pb := pb) R B F' X T hk N' (List.mem_of_getElem? (i := 3) rfl) (List.mem_of_getElem? (i := 4) rfl) (List.mem_of_getElem? (i := 5) rfl) (List.mem_of_getElem? (i := 6) rfl) (List.mem_of_getElem? (i := 7) rfl) (List.mem_of_getElem? (i := 8) rfl) (List.mem_of_getElem? (i := 9) rfl) (List.mem_of_getElem? (i := 10) rfl) ne1 hd (by show un + 1 + 20 * 2 < cLine; omega) fun t' h'' tk'' F'' N'' => ?_
    refine ⟨⟨t', rfl⟩, lgI N'', lgM N'', F''.keep _ _ hfn0, fun h3 tk3 hk3 => ?_⟩
    have z := N'' _ (.head _)
    obtain ⟨oL, es3, ep3, hL, r3⟩ := F''.ns
    have F3 : Fr h₀ L h3 m' := ⟨⟨oL, es3, ep3, hk3 _ _ (Ne.symm z.2.1) hL, r3⟩, fun b o e => hk3 b o (fun q => by have := z.2.2; rw [← q, e] at this; cases this) (F''.keep b o e), F''.above⟩
    have N3 : News h₀ L h3 (lexLed lx dx tp D rd c0 cc sg pb mo K fdl fdr co cco hsh key wp epb n' tn' [] ep') := fun q hq => by
      have y := N'' q (.tail _ hq)
      refine ⟨hk3 _ _ ?_ y.1, y.2⟩
      refine hI q.1 ?_
      simp only [lexLed, strmSub, List.mem_cons, List.not_mem_nil, or_false] at hq ⊢
      rcases hq with rfl | rfl | rfl | rfl | rfl | rfl | rfl | rfl | rfl | rfl <;> simp
    exact wpAny_execs_nil (stop tok _ hp (LexAt.intro F3 N3 .nil hn' ht' hm'))
  | cons c t C'' =>
    rename_i vs'' cs''
    refine ci_item (fa := 101) (self := .ref lx) (x := ⟨#[c]⟩) (t := t) (lgI N') (lgM N') hfn ?_
    refine code_rchar (A₀ := A₀) (base := base) (loose := loose) (mean := mean) (mg := mg) (mb := mb) (p := p) (K := K) (fdl := fdl) (hsh := hsh) (key := key) (pb := pb) R B F' X T hk N' (List.mem_of_getElem? (i := 3) rfl) (List.mem_of_getElem? (i := 4) rfl) (List.mem_of_getElem? (i := 5) rfl) (List.mem_of_getElem? (i := 6) rfl) (List.mem_of_getElem? (i := 7) rfl) (List.mem_of_getElem? (i := 8) rfl) (List.mem_of_getElem? (i := 9) rfl) (List.mem_of_getElem? (i := 10) rfl) (by simp only [List.length_cons] at hl hl2; omega) (by k_dflt k_upd) (by k_dflt k_updF) ne1 hd (by show un + 1 + 20 * 2 < cLine; omega) fun tn'' h'' tk'' F'' N'' => ?_
    refine ⟨rfl, ?_, lgI N'', ?_⟩
    · intro e
      have e2 : Str.ofString "" = ⟨#[]⟩ := by decide
      rw [e2] at e
      injection e with e
      simp at e
    refine wpAny_assign_Name (wpAny_storeName_local hx F''.ns (fun h3 hn3 hs3 => ?_) (by show (sc.kind == .class || (sc.kind == .module && L != mainGlobals)) = false; rw [hk]; rfl))
    have F3 := F''.set hn3 hs3
    have N3 := N''.set hs3
    have em : (fun y => if y = Str.ofString "ch" then some (Value.str ⟨#[c]⟩ t) else m' y) = fun y => if y = Str.ofString "ch" then some (.str ⟨#[c]⟩ t) else if y = Str.ofString "token" then some (.str (txtN tok) tt') else m₀ y := by
      funext y
      by_cases y1 : y = Str.ofString "ch"
      · rw [if_pos y1, if_pos y1]
      · rw [if_neg y1, if_neg y1]
        by_cases y2 : y = Str.ofString "token"
        · rw [if_pos y2, y2]; exact ht'
        · rw [if_neg y2]; exact hm' y y1 y2
    rw [em] at F3
    have en : lnext n' ⟨#[c]⟩ + nls cs'' = N := by
      rw [lnext_eq]; rw [nls_cons] at hn'; omega
    refine wpAny_mono (wpAny_passesOwn hE (turn c cs'' tok t tt' tn'' (lnext n' ⟨#[c]⟩) vs'' (ep' + 1) h3 (tk'' + 1) hp C'' en F3 N3)) (fun f s₃ z => ?_) fun _ _ e => e
    cases f with
    | ret v => exact z
    | brk => exact z.elim
    | next =>
      obtain ⟨cs9, tok9, hle, hp9, hl9⟩ := z
      exact ⟨cs9.length + 1, by simp only [List.length_cons]; omega, cs9, tok9, rfl, hp9, hl9⟩
    | cont =>
      obtain ⟨cs9, tok9, hle, hp9, hl9⟩ := z
      exact ⟨cs9.length + 1, by simp only [List.length_cons]; omega, cs9, tok9, rfl, hp9, hl9⟩
end
end Mine
-- Get
namespace Mine
noncomputable def wsC (c : Nat) : Bool := c == 10 || c == 9 || c == 13 || c == 32
noncomputable def bareG : List Nat → List Nat → Option (List Nat × List Nat)
  | [], _ => none
  | c :: r, tok => if wsC c = true then some (tok, r) else if c = 92 then (match r with | [] => none | d :: r' => bareG r' (tok ++ [d])) else bareG r (tok ++ [c])
noncomputable def quoteG : List Nat → List Nat → Option (List Nat × List Nat)
  | [], _ => none
  | c :: r, tok => if c = 34 then some (tok, r) else if c = 92 then (match r with | [] => none | d :: r' => quoteG r' (tok ++ [d])) else quoteG r (tok ++ [c])
noncomputable def startG : List Nat → Option (List Nat × List Nat)
  | [] => some ([], [])
  | c :: r => if wsC c = true then startG r else if c = 34 then quoteG r [] else if c = 92 then (match r with | [] => none | d :: r' => bareG r' [d]) else bareG r [c]
theorem ci_new_K {prog : Program} {w : World} {A : Around} {E : Value → Shared → Prop} {s : Shared} {h₀ : Heap} {L mo : Addr} {m : Str → Option Value} {news : Led} {f self sv : Value} {Q : Value → Shared → Prop} (F : Fr h₀ L s.heap m) (N : News h₀ L s.heap news) (hm : (mo, methodObj f self) ∈ news)
    (h : ∀ I h', Fr h₀ L h' m → News h₀ L h' ((I, ciObj (.ref mo) sv false) :: news) → (∀ p ∈ news, p.1 < I) → Q (.ref I) { s with heap := h' }) : wpAny (model prog w) A (call (.builtin "iter") [.ref mo, sv]) Q E s :=
  ci_new (N _ hm).1 (h _ _ (F.push _) (N.push F _) fun p hp => Heap.lt_size (N p hp).1)
theorem ws_occ (c : Nat) : (Builtin.Str.occurrences (Str.ofString "\n\t\r ") ⟨#[c]⟩ 0 (Str.ofString "\n\t\r ").length 1).isEmpty = !wsC c := by
  have e := StrLaws.found_one (Str.ofString "\n\t\r ") c
  have e2 : (Str.ofString "\n\t\r ").cps.toList = [10, 9, 13, 32] := by decide
  rw [e2] at e
  have e3 : decide (c ∈ [10, 9, 13, 32]) = wsC c := by
    unfold wsC
    rw [Bool.eq_iff_iff]
    simp [or_assoc]
  rw [← e3, ← e, Bool.not_not]
theorem one_eq (c d : Nat) (x : Str) (hx : x = ⟨#[d]⟩) : ((⟨#[c]⟩ : Str) == x) = decide (c = d) := by
  subst hx
  rw [Bool.eq_iff_iff, beq_iff_eq, decide_eq_true_eq]
  constructor
  · intro e; injection e with e; simpa using e
  · rintro rfl; rfl
theorem quote_eq (c : Nat) : ((⟨#[c]⟩ : Str) == Str.ofString "\"") = decide (c = 34) := one_eq c 34 _ (by decide)
theorem esc_eq (c : Nat) : ((⟨#[c]⟩ : Str) == Str.ofString "\\") = decide (c = 92) := one_eq c 92 _ (by decide)
theorem startG_cons (c : Nat) (r : List Nat) : startG (c :: r) = if wsC c = true then startG r else if c = 34 then quoteG r [] else if c = 92 then (match r with | [] => none | d :: r' => bareG r' [d]) else bareG r [c] := by
  cases r <;> simp only [startG]
theorem quoteG_cons (c : Nat) (r tok : List Nat) : quoteG (c :: r) tok = if c = 34 then some (tok, r) else if c = 92 then (match r with | [] => none | d :: r' => quoteG r' (tok ++ [d])) else quoteG r (tok ++ [c]) := by
  cases r <;> simp only [quoteG]
theorem bareG_cons (c : Nat) (r tok : List Nat) : bareG (c :: r) tok = if wsC c = true then some (tok, r) else if c = 92 then (match r with | [] => none | d :: r' => bareG r' (tok ++ [d])) else bareG r (tok ++ [c]) := by
  cases r <;> simp only [bareG]
theorem LexTurn.retn {h₀ : Heap} {L : Addr} {m₀ : Str → Option Value} {lg : Int → Tok → List Value → Nat → Led} {N : Int} {P : List Nat → List Nat → Prop} {k : Nat} {s₁ s₂ : Shared} {Q : Flow → Shared → Prop} {v : Value} (h : Q (.ret v) s₂) : LexTurn h₀ L m₀ lg N P k s₁ Q (.ret v) s₂ := h
theorem lnext_nls {m N : Int} {d : Nat} {cs : List Nat} (h : m + nls (d :: cs) = N) : lnext m ⟨#[d]⟩ + nls cs = N := by
  rw [lnext_eq]; rw [nls_cons] at h; omega
theorem txtN_append (cs : List Nat) (c : Nat) : txtN cs ++ ⟨#[c]⟩ = txtN (cs ++ [c]) := by
  show (⟨cs.toArray ++ #[c]⟩ : Str) = _
  simp [txtN]
theorem cl_get : ∀ (lx dx tp D rd c0 cc sg pb : Addr) (K : LK) (n : Int) (tn : Tok) (fdl fdr : FuncData) (co cco : Obj) (hsh : Int) (key : Tok) (vs : List Value) (ep epb : Nat) (xs tok rest : List Nat) (hC : Chars vs xs) (hz : xs.length < 1000) (hR : ReadOk rd c0 cc sg fdr co cco) (hG : startG xs = some (tok, rest)), Cl 4 108 [.ref lx] [] ((pb, W.listOf ([] : List Value).toArray epb) :: strmSub lx dx tp D rd c0 cc sg pb K n tn fdl fdr co cco hsh key vs ep) (fun _ => strmApart lx dx tp D rd c0 cc sg ∧ (@Ne Nat pb dx ∧ @Ne Nat pb sg))
      (fun v _ h' => (∃ t, v = .str (txtN tok) t) ∧ ∃ vs' n' tn' ep', Chars vs' rest ∧ n' + nls rest = n + nls xs ∧ ∀ q ∈ (pb, W.listOf ([] : List Value).toArray epb) :: strmSub lx dx tp D rd c0 cc sg pb K n' tn' fdl fdr co cco hsh key vs' ep', h'.get? q.1 = some q.2) := by
  refine eps8 (ne8 ne_nat ne_nat ne_nat ne_nat ne_nat ne_nat ne_nat ne_nat) ((?_ : ∀ a0 a1 a2 a3 a4 a5 a6 a7, At8 _ a0 a1 a2 a3 a4 a5 a6 a7) _ _ _ _ _ _ _ _)
  intros lx dx tp D rd c0 cc sg
  refine At8.mk ?_
  refine eps8 (ne8 ne_nat (⟨⟨0, 0, 0, 0, 0, 0, 0, 0, 0⟩⟩) ne_int ne_nat (⟨default⟩) (⟨default⟩) ne_obj ne_obj) ((?_ : ∀ a0 a1 a2 a3 a4 a5 a6 a7, At8 _ a0 a1 a2 a3 a4 a5 a6 a7) _ _ _ _ _ _ _ _)
  intros pb K n tn fdl fdr co cco
  refine At8.mk ?_
  refine eps8 (ne8 ne_int ne_nat ne_vals ne_nat ne_nat (⟨[]⟩) (⟨[]⟩) (⟨[]⟩)) ((?_ : ∀ a0 a1 a2 a3 a4 a5 a6 a7, At8 _ a0 a1 a2 a3 a4 a5 a6 a7) _ _ _ _ _ _ _ _)
  intros hsh key vs ep epb xs tok rest
  refine At8.mk ?_
  intros hC
  intros hz
  intros hR
  intros hG
  k_with_none
  k_with "kne" => (refine neN ?_; (try dsimp only); first | exact Nat.ne_of_gt (by with_reducible assumption) | exact Nat.ne_of_lt (by with_reducible assumption) | with_reducible assumption | exact Ne.symm (by with_reducible assumption) | exact Nat.succ_ne_self _ | exact Ne.symm (Nat.succ_ne_self _) | (apply Nat.ne_of_gt; apply And.left; k_extra "krn"; done) | (apply Nat.ne_of_lt; apply And.left; k_extra "krn"; done) | (apply Nat.ne_of_gt; k_extra "krn"; done) | (apply Nat.ne_of_lt; k_extra "krn"; done) | k_extra "kd4" | (apply Ne.symm; k_extra "kd4") | omega)
  k_with "kd1" => first | with_reducible assumption | (apply And.left; with_reducible assumption) | (apply And.right; with_reducible assumption)
  k_with "kd2" => first | with_reducible assumption | (apply And.left; k_extra "kd1") | (apply And.right; k_extra "kd1")
  k_with "kd3" => first | with_reducible assumption | (apply And.left; k_extra "kd2") | (apply And.right; k_extra "kd2")
  k_with "kd4" => first | with_reducible assumption | (apply And.left; k_extra "kd3") | (apply And.right; k_extra "kd3")
  k_with "krn" => ((iterate 19 (first | done | with_reducible assumption | apply And.right)); done)
  k_with "omg" => first | exact Mine.room2 (by with_reducible assumption) rfl | exact Mine.units2 (by with_reducible assumption) cLine_is rfl | ((repeat (rename @Ne Nat _ _ => z9w; clear z9w)); (repeat (rename @Ne Nat _ _ ∧ _ => z9w; clear z9w)); (repeat (rename (@Ne Nat _ _ ∧ _) ∧ _ => z9w; clear z9w)); omega +splitDisjunctions)
  k_with "call builtin:iter" => (k_here; (with_reducible show wpAny _ _ (call (Value.builtin _) [Value.ref _, Value.str _ _]) _ _ _); k_dflt (refine' ci_new_K ?F ?N ?m ?_; (case F => k_asm); (case N => k_asm); (case m => k_mem); k_whole); intro I9w h'w F'w N'w l1w; (try k_lt l1w))
  k_with "truthy ref" => (k_here; (with_reducible show wpAny _ _ (truthy (Value.ref _)) _ _ _); k_dflt (refine' truthy_nil ?N ?m ?_; (case N => k_asm); (case m => k_mem)))
  k_with "call ref" => ((with_reducible show wpAny _ _ (PySem.call _ _ _) _ _ _); (try dsimp only [List.cons_append, List.nil_append]); (with_reducible show wpAny _ _ (PySem.call (Value.ref 101) [Value.ref _] []) _ _ _); refine Hold.of ?_; walk_say "BREAK CALL")
  k_with "exec For Name Name cons nil" => ((with_reducible show wpAny _ _ (exec (Stmt.For _ _ _ _ _) _) _ _ _); refine Hold.of ?_; walk_say "BREAK")
  w_top off
  unfold Cl
  k_fill
  refine eps23 ne_cx ((?_ : ∀ w p loose mean mg mb dp un gd cn cs a ccd cl outer A₀ base h₀ L m s Q E, At23 _ w p loose mean mg mb dp un gd cn cs a ccd cl outer A₀ base h₀ L m s Q E) _ _ _ _ _ _ _ _ _ _ _ _ _ _ _ _ _ _ _ _ _ _ _)
  intros w p loose mean mg mb dp un gd cn cs a ccd cl outer A₀ base h₀ L m s Q E
  refine At23.mk ?_
  intros B F X T hk N hpre hd hu hret
  k_dflt (refine' code_defG ?k1 ?k2 ?k3 ?k4 ?k5 ?kA ?kF ?kK ?k6 ?k7 ?k8 ?k9 ?kB ?_ ?c2 ?c3 ?c4 ?c5; (case kA => exact rfl); (case kF => exact rfl); (case kK => assumption); (case k1 => k_asm); (case k2 => k_asm); (case k3 => k_asm); (case k4 => k_asm); (case k5 => k_asm); (case k6 => k_is); (case k7 => k_is); (case k8 => ktr_room); (case k9 => first | exact BindsTo.of_eq rfl | exact binds_K (by k_in) rfl (by k_is) rfl rfl rfl); (case c5 => decide); (case kB => exact locs rfl); (case c2 => exact rfl); (case c3 => exact rfl); (case c4 => exact rfl); k_whole; refine eps3 (ne3 ne_heap ne_nat ne_heap) ((?_ : ∀ a b c, At3 _ a b c) _ _ _); intros g' L' h'; refine At3.mk ?_; intros FG' F' N' B' X' T' kG'; (try dsimp only); (try k_fold))
  obtain ⟨ne1, ne2⟩ := hpre
  have H1 := HideP.mk ne1
  have H2 := HideP.mk ne2
  clear ne1 ne2
  dsimp only [strmSub, lexDict] at N'
  k_steps
  refine Hold.on ?_
  (rename Fr g' _ _ _ => F9)
  (rename News g' _ _ _ => N9)
  rename_i tkA hA qA hB lA hZ
  (try dsimp only [qk])
  (try dsimp only [ek])
  clear qk ek
  revert N9
  revert F9
  revert l1w
  revert lA
  revert tkA qA I9w hZ tk
  refine eps4 (ne4 ne_nat ne_nat ne_nat ne_heap) ((?_ : ∀ a0 a1 a2 a3, At4 _ a0 a1 a2 a3) _ _ _ _)
  intros tkA qA I9w hZ
  refine At4.mk ?_
  refine eps_all (ne_nat) ((?_ : ∀ a, AtE _ a) _)
  intros tk
  refine AtE.mk ?_
  intros lA l1w F9 N9
  k_dflt (refine' lex_for (N := n + nls xs) (P := fun cs tk => startG cs = some (tok, rest) ∧ tk = [] ∧ cs.length < 1000) (cs₀ := xs) (tok₀ := []) hR ?B ?X ?T ?hk ?ne ?hI ?hd ?hu ?hlen ?hx ?hy ?hP ?h0 ?hf ?turn ?stop ?hE)
  case h0 => exact LexAt.intro F9 N9 hC rfl rfl (fun _ _ _ => rfl)
  case B => k_asm
  case X => k_asm
  case T => k_asm
  case hk => rfl
  case ne => exact ⟨H1.h, Nat.ne_of_gt (by omega), Nat.ne_of_gt (by omega), H2.h⟩
  case hI => intro b hb; simp only [List.mem_cons, List.not_mem_nil, or_false] at hb; (rcases hb with rfl | rfl | rfl | rfl | rfl | rfl | rfl | rfl | rfl | rfl) <;> exact Nat.ne_of_lt (by omega)
  case hd => ktr_room
  case hu => ktr_units
  case hlen => intro cs tk h; exact h.2.2
  case hx => rfl
  case hy => rfl
  case hP => exact ⟨hG, rfl, hz⟩
  case hf => rfl
  case hE => passes_own
  case turn =>
    clear F9 N9
    refine eps8 (ne8 ne_nat (⟨[]⟩) (⟨[]⟩) ne_nat ne_nat ne_nat ne_int ne_vals) ((?_ : ∀ a0 a1 a2 a3 a4 a5 a6 a7, At8 _ a0 a1 a2 a3 a4 a5 a6 a7) _ _ _ _ _ _ _ _)
    intros c cs9 tk9 t9 tt9 tn9 m9 vs9
    refine At8.mk ?_
    refine eps3 (ne3 ne_nat ne_heap ne_nat) ((?_ : ∀ a0 a1 a2, At3 _ a0 a1 a2) _ _ _)
    intros ep9 h9 tok9
    refine At3.mk ?_
    intros hP9 hC9 hN9 F9 N9
    obtain ⟨hg9, hk9, hl9⟩ := hP9
    subst hk9
    simp only [List.length_cons] at hl9
    dsimp only [lexLed, strmSub, lexDict] at N9
    (try k_fold)
    k_steps
    rotate_right
    · (rename (Builtin.Str.occurrences _ _ _ _ _).isEmpty = _ => hw)
      rw [ws_occ] at hw
      have hw2 : wsC c = true := by simpa using hw
      rw [startG_cons, if_pos hw2] at hg9
      exact LexTurn.againC (cs := cs9) (tok := []) (Nat.le_refl _) ⟨hg9, rfl, by omega⟩ (LexAt.intro (by assumption) (by assumption) hC9 hN9 rfl (fun z z1 z2 => by simp [z1, z2]))
    · (rename (Builtin.Str.occurrences _ _ _ _ _).isEmpty = _ => hw)
      (rename (_ == Str.ofString "\"") = _ => hq)
      rw [ws_occ] at hw
      rw [quote_eq] at hq
      have hw2 : ¬ (wsC c = true) := by simpa using hw
      have hq2 : c = 34 := by simpa using hq
      rw [startG_cons, if_neg hw2, if_pos hq2] at hg9
      clear hw hq hw2 hq2
      refine Hold.on ?_
      k_dflt (refine' lex_for (N := n + nls xs) (P := fun cs tk => quoteG cs tk = some (tok, rest) ∧ tk.length + cs.length < 1000) (cs₀ := cs9) (tok₀ := []) hR ?B2 ?X2 ?T2 ?hk2 ?ne2 ?hI2 ?hd2 ?hu2 ?hlen2 ?hx2 ?hy2 ?hP2 ?h02 ?hf2 ?turn2 ?stop2 ?hE2)
      case h02 => exact LexAt.intro F9 N9 hC9 hN9 rfl (fun _ _ _ => rfl)
      case B2 => k_asm
      case X2 => k_asm
      case T2 => k_asm
      case hk2 => rfl
      case ne2 => exact ⟨H1.h, Nat.ne_of_gt (by omega), Nat.ne_of_gt (by omega), H2.h⟩
      case hI2 => intro b hb; simp only [List.mem_cons, List.not_mem_nil, or_false] at hb; (rcases hb with rfl | rfl | rfl | rfl | rfl | rfl | rfl | rfl | rfl | rfl) <;> exact Nat.ne_of_lt (by omega)
      case hd2 => ktr_room
      case hu2 => ktr_units
      case hlen2 => intro cs tk h; have := h.2; omega
      case hx2 => rfl
      case hy2 => rfl
      case hP2 => exact ⟨hg9, by (try simp only [List.length_nil, List.length_cons] at *); omega⟩
      case hf2 => rfl
      case hE2 => passes_own
      case stop2 =>
        intro tk3 s3 h3
        exact absurd h3.1 (by rw [quoteG]; exact fun e => nomatch e)
      case turn2 =>
        clear F9 N9
        intro c2 cs2 tk2 t2 tt2 tn2 m2 vs2 ep2 h2 tok2 hP2 hC2 hN2 F2 N2
        obtain ⟨hg2, hl2⟩ := hP2
        simp only [List.length_cons] at hl2
        dsimp only [lexLed, strmSub, lexDict] at N2
        (try k_fold)
        have hL1 : (txtN tk2).length < 1000 := by show tk2.toArray.size < 1000; simp only [List.size_toArray]; omega
        have hL2 : (⟨#[c2]⟩ : Str).length = 1 := rfl
        k_steps
        · dsimp only
          k_steps
          refine LexTurn.retn ?_
          k_steps
          dsimp only
          k_steps
          refine LexTurn.retn ?_
          k_steps
          (rename (_ == Str.ofString "\"") = _ => hq)
          rw [quote_eq] at hq
          have hq2 : c2 = 34 := by simpa using hq
          rw [quoteG_cons, if_pos hq2] at hg2
          have hg3 := Option.some.inj hg2
          injection hg3 with hg4 hg5
          subst hg4 hg5
          exact hret _ _ _ (fun b o e hb => Fr.keep (by with_reducible assumption) b o (kG' b o e hb)) ⟨⟨_, rfl⟩, vs2, m2, tn2, ep2, hC2, hN2, fun q hq => (N2 q (.tail _ (.tail _ hq))).1⟩
        · (rename (_ == Str.ofString "\"") = _ => hq)
          rw [quote_eq] at hq
          have hq2 : ¬ c2 = 34 := by simpa using hq
          (rename (_ == Str.ofString "\\") = _ => he)
          rw [esc_eq] at he
          have he2 : c2 = 92 := by simpa using he
          rw [quoteG_cons, if_neg hq2, if_pos he2] at hg2
          cases hC2 with
          | nil => exact absurd hg2 (fun e => nomatch e)
          | cons d td hC3 =>
            refine Hold.on ?_
            refine use_rchar (fdl := fdl) (fdr := fdr) (K := K) (pb := pb) (co := co) (cco := cco) (hsh := hsh) (key := key) hR (by k_asm) F2 (by k_asm) (by k_asm) rfl N2 (List.mem_of_getElem? (i := 3) rfl) (List.mem_of_getElem? (i := 4) rfl) (List.mem_of_getElem? (i := 5) rfl) (List.mem_of_getElem? (i := 6) rfl) (List.mem_of_getElem? (i := 7) rfl) (List.mem_of_getElem? (i := 8) rfl) (List.mem_of_getElem? (i := 9) rfl) (List.mem_of_getElem? (i := 10) rfl) (by have := hC3.length; simp only [List.length_cons] at hl2; omega) (by obtain ⟨⟨n1, n2, n3⟩, ⟨n4, n5, n6, n7⟩, n8, n9, n10, n11, n12, n13⟩ := H1.h; obtain ⟨n14, n15⟩ := H2.h; k_dflt k_upd) (by obtain ⟨⟨n1, n2, n3⟩, ⟨n4, n5, n6, n7⟩, n8, n9, n10, n11, n12, n13⟩ := H1.h; obtain ⟨n14, n15⟩ := H2.h; k_dflt k_updF) H1.h (by ktr_room) (by ktr_units) fun tn3 h3 tk3 F3 N3 => ?_
            (try dsimp only)
            (try k_fold)
            k_steps
            simp only [List.length_cons] at hl2
            refine LexTurn.againN (tok := tk2 ++ [d]) (by simp only [List.length_cons]; omega) ⟨hg2, by simp only [List.length_append, List.length_cons, List.length_nil]; omega⟩ (LexAt.intro (by assumption) (by assumption) hC3 (lnext_nls hN2) (by rw [← txtN_append]; rfl) (fun z z1 z2 => by simp [z1, z2]))
        · (rename (_ == Str.ofString "\"") = _ => hq)
          rw [quote_eq] at hq
          have hq2 : ¬ c2 = 34 := by simpa using hq
          (rename (_ == Str.ofString "\\") = _ => he)
          rw [esc_eq] at he
          have he2 : ¬ c2 = 92 := by simpa using he
          rw [quoteG_cons, if_neg hq2, if_neg he2] at hg2
          refine LexTurn.againN (cs := cs2) (tok := tk2 ++ [c2]) (Nat.le_refl _) ⟨hg2, by simp only [List.length_append, List.length_cons, List.length_nil]; omega⟩ (LexAt.intro (by assumption) (by assumption) hC2 hN2 (by rw [← txtN_append]; rfl) (fun z z1 z2 => by simp [z1, z2]))
    · (rename (Builtin.Str.occurrences _ _ _ _ _).isEmpty = _ => hw)
      (rename (_ == Str.ofString "\"") = _ => hq)
      (rename (_ == Str.ofString "\\") = _ => he)
      rw [ws_occ] at hw
      rw [quote_eq] at hq
      rw [esc_eq] at he
      have hw2 : ¬ (wsC c = true) := by simpa using hw
      have hq2 : ¬ c = 34 := by simpa using hq
      have he2 : c = 92 := by simpa using he
      rw [startG_cons, if_neg hw2, if_neg hq2, if_pos he2] at hg9
      clear hw hq hw2 hq2 he
      cases hC9 with
      | nil => exact absurd hg9 (fun e => nomatch e)
      | cons d td hC3 =>
        rename_i vs3 cs3
        refine Hold.on ?_
        refine use_rchar (fdl := fdl) (fdr := fdr) (K := K) (pb := pb) (co := co) (cco := cco) (hsh := hsh) (key := key) hR (by k_asm) F9 (by k_asm) (by k_asm) rfl N9 (List.mem_of_getElem? (i := 3) rfl) (List.mem_of_getElem? (i := 4) rfl) (List.mem_of_getElem? (i := 5) rfl) (List.mem_of_getElem? (i := 6) rfl) (List.mem_of_getElem? (i := 7) rfl) (List.mem_of_getElem? (i := 8) rfl) (List.mem_of_getElem? (i := 9) rfl) (List.mem_of_getElem? (i := 10) rfl) (by have := hC3.length; simp only [List.length_cons] at hl9; omega) (by obtain ⟨⟨n1, n2, n3⟩, ⟨n4, n5, n6, n7⟩, n8, n9, n10, n11, n12, n13⟩ := H1.h; obtain ⟨n14, n15⟩ := H2.h; k_dflt k_upd) (by obtain ⟨⟨n1, n2, n3⟩, ⟨n4, n5, n6, n7⟩, n8, n9, n10, n11, n12, n13⟩ := H1.h; obtain ⟨n14, n15⟩ := H2.h; k_dflt k_updF) H1.h (by ktr_room) (by ktr_units) fun tn3 h3 tk3 F3 N3 => ?_
        have hn3 : lnext m9 ⟨#[d]⟩ + nls cs3 = n + nls xs := lnext_nls hN9
        clear F9 N9
        (try dsimp only)
        (try k_fold)
        k_steps
        (rename Fr g' _ _ _ => F5)
        (rename News g' _ _ _ => N5)
        refine Hold.on ?_
        k_dflt (refine' lex_for (N := n + nls xs) (P := fun cs tk => bareG cs tk = some (tok, rest) ∧ tk.length + cs.length < 1000) (cs₀ := cs3) (tok₀ := [d]) hR ?B3 ?X3 ?T3 ?hk3 ?ne3 ?hI3 ?hd3 ?hu3 ?hlen3 ?hx3 ?hy3 ?hP3 ?h03 ?hf3 ?turn3 ?stop3 ?hE3)
        case h03 => exact LexAt.intro F5 N5 hC3 hn3 rfl (fun _ _ _ => rfl)
        case B3 => k_asm
        case X3 => k_asm
        case T3 => k_asm
        case hk3 => rfl
        case ne3 => exact ⟨H1.h, Nat.ne_of_gt (by omega), Nat.ne_of_gt (by omega), H2.h⟩
        case hI3 => intro b hb; simp only [List.mem_cons, List.not_mem_nil, or_false] at hb; (rcases hb with rfl | rfl | rfl | rfl | rfl | rfl | rfl | rfl | rfl | rfl) <;> exact Nat.ne_of_lt (by omega)
        case hd3 => ktr_room
        case hu3 => ktr_units
        case hlen3 => intro cs tk h; have := h.2; omega
        case hx3 => rfl
        case hy3 => rfl
        case hP3 => exact ⟨hg9, by (try simp only [List.length_nil, List.length_cons] at *); omega⟩
        case hf3 => rfl
        case hE3 => passes_own
        case stop3 =>
          intro tk3 s3 h3
          exact absurd h3.1 (by rw [bareG]; exact fun e => nomatch e)
        case turn3 =>
          clear F5 N5
          intro c2 cs2 tk2 t2 tt2 tn2 m2 vs2 ep2 h2 tok2 hP2 hC2 hN2 F2 N2
          obtain ⟨hg2, hl2⟩ := hP2
          simp only [List.length_cons] at hl2
          dsimp only [lexLed, strmSub, lexDict] at N2
          (try k_fold)
          have hL1 : (txtN tk2).length < 1000 := by show tk2.toArray.size < 1000; simp only [List.size_toArray]; omega
          have hL2 : (⟨#[c2]⟩ : Str).length = 1 := rfl
          k_steps
          rotate_right
          · dsimp only
            k_steps
            refine LexTurn.retn ?_
            k_steps
            dsimp only
            k_steps
            refine LexTurn.retn ?_
            k_steps
            (rename (Builtin.Str.occurrences _ _ _ _ _).isEmpty = _ => hq)
            rw [ws_occ] at hq
            have hq2 : wsC c2 = true := by simpa using hq
            rw [bareG_cons, if_pos hq2] at hg2
            have hg3 := Option.some.inj hg2
            injection hg3 with hg4 hg5
            subst hg4 hg5
            exact hret _ _ _ (fun b o e hb => Fr.keep (by with_reducible assumption) b o (kG' b o e hb)) ⟨⟨_, rfl⟩, vs2, m2, tn2, ep2, hC2, hN2, fun q hq => (N2 q (.tail _ (.tail _ hq))).1⟩
          · (rename (Builtin.Str.occurrences _ _ _ _ _).isEmpty = _ => hq)
            rw [ws_occ] at hq
            have hq2 : ¬ (wsC c2 = true) := by simpa using hq
            (rename (_ == Str.ofString "\\") = _ => he)
            rw [esc_eq] at he
            have he2 : c2 = 92 := by simpa using he
            rw [bareG_cons, if_neg hq2, if_pos he2] at hg2
            cases hC2 with
            | nil => exact absurd hg2 (fun e => nomatch e)
            | cons d td hC3 =>
              refine Hold.on ?_
              refine use_rchar (fdl := fdl) (fdr := fdr) (K := K) (pb := pb) (co := co) (cco := cco) (hsh := hsh) (key := key) hR (by k_asm) F2 (by k_asm) (by k_asm) rfl N2 (List.mem_of_getElem? (i := 3) rfl) (List.mem_of_getElem? (i := 4) rfl) (List.mem_of_getElem? (i := 5) rfl) (List.mem_of_getElem? (i := 6) rfl) (List.mem_of_getElem? (i := 7) rfl) (List.mem_of_getElem? (i := 8) rfl) (List.mem_of_getElem? (i := 9) rfl) (List.mem_of_getElem? (i := 10) rfl) (by have := hC3.length; simp only [List.length_cons] at hl2; omega) (by obtain ⟨⟨n1, n2, n3⟩, ⟨n4, n5, n6, n7⟩, n8, n9, n10, n11, n12, n13⟩ := H1.h; obtain ⟨n14, n15⟩ := H2.h; k_dflt k_upd) (by obtain ⟨⟨n1, n2, n3⟩, ⟨n4, n5, n6, n7⟩, n8, n9, n10, n11, n12, n13⟩ := H1.h; obtain ⟨n14, n15⟩ := H2.h; k_dflt k_updF) H1.h (by ktr_room) (by ktr_units) fun tn3 h3 tk3 F3 N3 => ?_
              (try dsimp only)
              (try k_fold)
              k_steps
              simp only [List.length_cons] at hl2
              refine LexTurn.againN (tok := tk2 ++ [d]) (by simp only [List.length_cons]; omega) ⟨hg2, by simp only [List.length_append, List.length_cons, List.length_nil]; omega⟩ (LexAt.intro (by assumption) (by assumption) hC3 (lnext_nls hN2) (by rw [← txtN_append]; rfl) (fun z z1 z2 => by simp [z1, z2]))
          · (rename (Builtin.Str.occurrences _ _ _ _ _).isEmpty = _ => hq)
            rw [ws_occ] at hq
            have hq2 : ¬ (wsC c2 = true) := by simpa using hq
            (rename (_ == Str.ofString "\\") = _ => he)
            rw [esc_eq] at he
            have he2 : ¬ c2 = 92 := by simpa using he
            rw [bareG_cons, if_neg hq2, if_neg he2] at hg2
            refine LexTurn.againN (cs := cs2) (tok := tk2 ++ [c2]) (Nat.le_refl _) ⟨hg2, by simp only [List.length_append, List.length_cons, List.length_nil]; omega⟩ (LexAt.intro (by assumption) (by assumption) hC2 hN2 (by rw [← txtN_append]; rfl) (fun z z1 z2 => by simp [z1, z2]))
    · (rename (Builtin.Str.occurrences _ _ _ _ _).isEmpty = _ => hw)
      (rename (_ == Str.ofString "\"") = _ => hq)
      (rename (_ == Str.ofString "\\") = _ => he)
      (rename Fr g' _ _ _ => F5)
      (rename News g' _ _ _ => N5)
      rw [ws_occ] at hw
      rw [quote_eq] at hq
      rw [esc_eq] at he
      have hw2 : ¬ (wsC c = true) := by simpa using hw
      have hq2 : ¬ c = 34 := by simpa using hq
      have he2 : ¬ c = 92 := by simpa using he
      rw [startG_cons, if_neg hw2, if_neg hq2, if_neg he2] at hg9
      clear hw hq hw2 hq2 he he2
      refine Hold.on ?_
      k_dflt (refine' lex_for (N := n + nls xs) (P := fun cs tk => bareG cs tk = some (tok, rest) ∧ tk.length + cs.length < 1000) (cs₀ := cs9) (tok₀ := [c]) hR ?B4 ?X4 ?T4 ?hk4 ?ne4 ?hI4 ?hd4 ?hu4 ?hlen4 ?hx4 ?hy4 ?hP4 ?h04 ?hf4 ?turn4 ?stop4 ?hE4)
      case h04 => exact LexAt.intro F5 N5 hC9 hN9 rfl (fun _ _ _ => rfl)
      case B4 => k_asm
      case X4 => k_asm
      case T4 => k_asm
      case hk4 => rfl
      case ne4 => exact ⟨H1.h, Nat.ne_of_gt (by omega), Nat.ne_of_gt (by omega), H2.h⟩
      case hI4 => intro b hb; simp only [List.mem_cons, List.not_mem_nil, or_false] at hb; (rcases hb with rfl | rfl | rfl | rfl | rfl | rfl | rfl | rfl | rfl | rfl) <;> exact Nat.ne_of_lt (by omega)
      case hd4 => ktr_room
      case hu4 => ktr_units
      case hlen4 => intro cs tk h; have := h.2; omega
      case hx4 => rfl
      case hy4 => rfl
      case hP4 => exact ⟨hg9, by (try simp only [List.length_nil, List.length_cons] at *); omega⟩
      case hf4 => rfl
      case hE4 => passes_own
      case stop4 =>
        intro tk3 s3 h3
        exact absurd h3.1 (by rw [bareG]; exact fun e => nomatch e)
      case turn4 =>
        clear F5 N5
        intro c2 cs2 tk2 t2 tt2 tn2 m2 vs2 ep2 h2 tok2 hP2 hC2 hN2 F2 N2
        obtain ⟨hg2, hl2⟩ := hP2
        simp only [List.length_cons] at hl2
        dsimp only [lexLed, strmSub, lexDict] at N2
        (try k_fold)
        have hL1 : (txtN tk2).length < 1000 := by show tk2.toArray.size < 1000; simp only [List.size_toArray]; omega
        have hL2 : (⟨#[c2]⟩ : Str).length = 1 := rfl
        k_steps
        rotate_right
        · dsimp only
          k_steps
          refine LexTurn.retn ?_
          k_steps
          dsimp only
          k_steps
          refine LexTurn.retn ?_
          k_steps
          (rename (Builtin.Str.occurrences _ _ _ _ _).isEmpty = _ => hq)
          rw [ws_occ] at hq
          have hq2 : wsC c2 = true := by simpa using hq
          rw [bareG_cons, if_pos hq2] at hg2
          have hg3 := Option.some.inj hg2
          injection hg3 with hg4 hg5
          subst hg4 hg5
          exact hret _ _ _ (fun b o e hb => Fr.keep (by with_reducible assumption) b o (kG' b o e hb)) ⟨⟨_, rfl⟩, vs2, m2, tn2, ep2, hC2, hN2, fun q hq => (N2 q (.tail _ (.tail _ hq))).1⟩
        · (rename (Builtin.Str.occurrences _ _ _ _ _).isEmpty = _ => hq)
          rw [ws_occ] at hq
          have hq2 : ¬ (wsC c2 = true) := by simpa using hq
          (rename (_ == Str.ofString "\\") = _ => he)
          rw [esc_eq] at he
          have he2 : c2 = 92 := by simpa using he
          rw [bareG_cons, if_neg hq2, if_pos he2] at hg2
          cases hC2 with
          | nil => exact absurd hg2 (fun e => nomatch e)
          | cons d td hC3 =>
            refine Hold.on ?_
            refine use_rchar (fdl := fdl) (fdr := fdr) (K := K) (pb := pb) (co := co) (cco := cco) (hsh := hsh) (key := key) hR (by k_asm) F2 (by k_asm) (by k_asm) rfl N2 (List.mem_of_getElem? (i := 3) rfl) (List.mem_of_getElem? (i := 4) rfl) (List.mem_of_getElem? (i := 5) rfl) (List.mem_of_getElem? (i := 6) rfl) (List.mem_of_getElem? (i := 7) rfl) (List.mem_of_getElem? (i := 8) rfl) (List.mem_of_getElem? (i := 9) rfl) (List.mem_of_getElem? (i := 10) rfl) (by have := hC3.length; simp only [List.length_cons] at hl2; omega) (by obtain ⟨⟨n1, n2, n3⟩, ⟨n4, n5, n6, n7⟩, n8, n9, n10, n11, n12, n13⟩ := H1.h; obtain ⟨n14, n15⟩ := H2.h; k_dflt k_upd) (by obtain ⟨⟨n1, n2, n3⟩, ⟨n4, n5, n6, n7⟩, n8, n9, n10, n11, n12, n13⟩ := H1.h; obtain ⟨n14, n15⟩ := H2.h; k_dflt k_updF) H1.h (by ktr_room) (by ktr_units) fun tn3 h3 tk3 F3 N3 => ?_
            (try dsimp only)
            (try k_fold)
            k_steps
            simp only [List.length_cons] at hl2
            refine LexTurn.againN (tok := tk2 ++ [d]) (by simp only [List.length_cons]; omega) ⟨hg2, by simp only [List.length_append, List.length_cons, List.length_nil]; omega⟩ (LexAt.intro (by assumption) (by assumption) hC3 (lnext_nls hN2) (by rw [← txtN_append]; rfl) (fun z z1 z2 => by simp [z1, z2]))
        · (rename (Builtin.Str.occurrences _ _ _ _ _).isEmpty = _ => hq)
          rw [ws_occ] at hq
          have hq2 : ¬ (wsC c2 = true) := by simpa using hq
          (rename (_ == Str.ofString "\\") = _ => he)
          rw [esc_eq] at he
          have he2 : ¬ c2 = 92 := by simpa using he
          rw [bareG_cons, if_neg hq2, if_neg he2] at hg2
          refine LexTurn.againN (cs := cs2) (tok := tk2 ++ [c2]) (Nat.le_refl _) ⟨hg2, by simp only [List.length_append, List.length_cons, List.length_nil]; omega⟩ (LexAt.intro (by assumption) (by assumption) hC2 hN2 (by rw [← txtN_append]; rfl) (fun z z1 z2 => by simp [z1, z2]))
  case stop =>
    clear F9 N9
    intro tk3 s3 h3 h4
    obtain ⟨hg3, rfl, _⟩ := h3
    obtain ⟨h9, tok9, m9, vs9, v9, tn9, tt9, ep9, rfl, F9, N9, C9, hn9, ht9, hm9⟩ := h4
    rw [startG] at hg3
    injection Option.some.inj hg3 with hg4 hg5
    subst hg4 hg5
    dsimp only [lexLed, strmSub, lexDict] at N9
    have em : m9 = fun y => if y = Str.ofString "token" then some (.str (txtN []) tt9) else m9 y := by
      funext y
      by_cases y1 : y = Str.ofString "token"
      · rw [if_pos y1, y1]; exact ht9
      · rw [if_neg y1]
    rw [em] at F9
    (try k_fold)
    k_steps
    exact hret _ _ _ (fun b o e hb => Fr.keep (by with_reducible assumption) b o (kG' b o e hb)) ⟨⟨_, rfl⟩, vs9, v9, tn9, ep9, C9, hn9, fun q hq => (N9 q (.tail _ hq)).1⟩
end Mine
-- Lex
namespace Mine
section
variable {prog : Program} {w : World} {A A₀ : Around} {s : Shared} {K : Frag} {L : Addr} {h₀ base : Heap} {m mg mb : Str → Option Value} {news : List (Addr × Obj)} {p : Program} {loose : List Str} {mean : ExcName → Option Value}
/-- a call of a nested def that lies in the ledger, with what stays told by GSub -/
theorem enter_nest {env : Env} {outer : List Env} {R : Result → Shared → Prop} {name qual : Str} {params : Arguments} {body : List Stmt} {scope : Scope} {cl : List (Str × Addr)} {doc pm ctv : Value} {c' : Addr} {f : Addr} {args : Args} {binds : List (Str × Value)}
    (B : Below A₀ base outer h₀) (F : Fr h₀ L s.heap m) (X₀ : K.In h₀) (N : News h₀ L s.heap news) (T : Top p loose mean mg mb h₀) (hA : A.frames = some (env :: outer)) (hf : env.frame = some L) (hke : env.scope.kind = .function)
    (ho : (f, fnMade name qual params body scope cl doc pm c' ctv) ∈ news) (hcd : s.heap.CodeRec (.ref c') qual) (hroom : A.depth < recursionLimit)
    (hbind : BindsTo s (fnX name qual params body scope cl .none .none doc pm none (.ref c') ctv) args binds) (hloc : ∀ y ∈ binds, scope.names.lookup y.1 = some .local)
    (h : ∀ g L' h₁, Fr h₀ L g m → Fr g L' h₁ (fun y => binds.reverse.lookup y) → News g L' h₁ news → Below A base (env :: outer) g → K.In g → Top p loose mean mg mb g → GSub s.heap g (news.map (·.1)) →
      wpAny (model prog w) (A.deeper (envX qual scope L' f (.ref c') cl)) (execs body (envX qual scope L' f (.ref c') cl))
        (fun fl s' => LeaveK h₀ L m g R (match fl with | .ret v => v | _ => .none) s')
        (fun e s' => wpAny (model prog w) (A.deeper (envX qual scope L' f (.ref c') cl)) (leaving (envX qual scope L' f (.ref c') cl) e) (fun _ s'' => R (.error e) s'') (fun e' s'' => R (.error e') s'') s')
        { s with heap := h₁, toks := s.toks + binds.length })
    (hco : scope.isCoroutine = false) (hgen : scope.isGenerator = false) (hk : scope.kind = .function)
    (hcell : ∀ x ∈ scope.names, x.2 ≠ .cell) : codeAny (model prog w) A (.call (.ref f) args) R s := by
  obtain ⟨FG, BG, st, lv⟩ := groundX (R := R) B F N hA hf hke
  refine codeAny_call_def (fd := fnX name qual params body scope cl .none .none doc pm none (.ref c') ctv) (body := body) (binds := binds) hroom (N _ ho).1 rfl (T.nolimit.keeps F.keep) hcd rfl hbind hcell hloc (fun h₁ hns hk₁ => ?_) hco hgen hk
  exact wpAny_mono (h _ s.heap.objs.size h₁ FG ⟨hns, fun b o e => hk₁ b o (of_hideAll _ e), Nat.le_of_eq (hideAll_size _ _)⟩
    (fun p hp => ⟨hk₁ _ _ (N p hp).1, Nat.ne_of_lt (Heap.lt_size (N p hp).1), hideAll_none _ (List.mem_map_of_mem hp)⟩) BG (X₀.keeps st) (T.keeps st) (fun b o e n => hideAll_get _ e n)) (fun fl s' hl => lv _ _ hl) fun _ _ y => y
end
theorem Chars.of_carried : ∀ {cs : List Nat} {vs : List Value}, CarriedAll vs (cs.map fun c => PyData.str ⟨#[c]⟩) → Chars vs cs
  | [], _, h => by cases h; exact .nil
  | c :: cs, _, h => by
    cases h with
    | cons a b => cases a; exact .cons c _ (Chars.of_carried b)
theorem news_more {h₀ h : Heap} {L : Addr} {news : Led} {S : Addr} {o : Obj} (N : News h₀ L h news) (e : h.get? S = some o) (n : S ≠ L) (f : h₀.get? S = none) : News h₀ L h ((S, o) :: news) := by
  intro q hq
  rcases List.mem_cons.mp hq with rfl | hq
  · exact ⟨e, n, f⟩
  · exact N q hq
/-- the push-back list lies apart from the lexer's other parts -/
noncomputable abbrev pbApart (lx dx tp D rd c0 cc sg pb : Addr) : Prop := (@Ne Nat pb dx ∧ @Ne Nat pb sg ∧ @Ne Nat lx pb) ∧ @Ne Nat tp pb ∧ @Ne Nat D pb ∧ @Ne Nat rd pb ∧ @Ne Nat c0 pb ∧ @Ne Nat cc pb
/-- what _law_lexer hands on: a lexer all of whose parts are new -/
noncomputable def LexNew (xs : List Nat) (v : Value) (h h' : Heap) : Prop :=
  ∃ (lx dx tp D rd c0 cc sg pb : Addr) (K : LK) (tn : Tok) (fdl fdr : FuncData) (co cco : Obj) (hsh : Int) (key : Tok) (vs : List Value) (ep : Nat), v = .ref lx ∧ ReadOk rd c0 cc sg fdr co cco ∧ Chars vs xs ∧ strmApart lx dx tp D rd c0 cc sg ∧ pbApart lx dx tp D rd c0 cc sg pb ∧ (∃ ps, h'.get? 296 = some (tabObj ps)) ∧
    ∀ q ∈ (pb, W.listOf ([] : List Value).toArray 0) :: strmSub lx dx tp D rd c0 cc sg pb K 1 tn fdl fdr co cco hsh key vs ep, h'.get? q.1 = some q.2 ∧ h.get? q.1 = none
theorem lexNew_of {g h h' : Heap} {L lx dx tp D rd c0 cc sg pb cL : Addr} {h1 h2 h3 h4 : Int} {k1 k2 k3 k4 tw : Tok} {tn : Tok} {fdl fdr : FuncData} {co cco oL : Obj} {ps : Array Value} {hsh : Int} {key : Tok} {vs : List Value} {ep : Nat} {xs : List Nat}
    (N : News g L h' [(pb, W.listOf #[] 0), (lx, instObj 118 dx), (dx, lexDict ⟨h1, h2, h3, h4, k1, k2, k3, k4, tw⟩ 1 tn tp pb), (D, dictOf [⟨hsh, .str (Str.ofString "read") key, .ref rd⟩] 1), (tp, fnObj (some D) fdl #[]), (cL, oL), (rd, fnObj none fdr #[]), (c0, co), (sg, W.listOf vs.toArray ep), (cc, cco), (296, tabObj ps)])
    (k : GSub h g [296]) (R : ReadOk rd c0 cc sg fdr co cco) (C : Chars vs xs) (a : strmApart lx dx tp D rd c0 cc sg) (b : pbApart lx dx tp D rd c0 cc sg pb)
    (z : ∀ b ∈ [pb, lx, dx, D, tp, rd, c0, sg, cc], b ≠ 296) : LexNew xs (.ref lx) h h' := by
  have e0 : ∀ q ∈ (pb, W.listOf ([] : List Value).toArray 0) :: strmSub lx dx tp D rd c0 cc sg pb ⟨h1, h2, h3, h4, k1, k2, k3, k4, tw⟩ 1 tn fdl fdr co cco hsh key vs ep, (h'.get? q.1 = some q.2 ∧ q.1 ≠ L ∧ g.get? q.1 = none) ∧ q.1 ≠ 296 :=
    fc ⟨N _ (mi 0 rfl), z _ (mi 0 rfl)⟩ (fc ⟨N _ (mi 1 rfl), z _ (mi 1 rfl)⟩ (fc ⟨N _ (mi 2 rfl), z _ (mi 2 rfl)⟩ (fc ⟨N _ (mi 4 rfl), z _ (mi 4 rfl)⟩ (fc ⟨N _ (mi 3 rfl), z _ (mi 3 rfl)⟩ (fc ⟨N _ (mi 6 rfl), z _ (mi 5 rfl)⟩ (fc ⟨N _ (mi 7 rfl), z _ (mi 6 rfl)⟩ (fc ⟨N _ (mi 9 rfl), z _ (mi 8 rfl)⟩ (fc ⟨N _ (mi 8 rfl), z _ (mi 7 rfl)⟩ fn))))))))
  refine ⟨lx, dx, tp, D, rd, c0, cc, sg, pb, ⟨h1, h2, h3, h4, k1, k2, k3, k4, tw⟩, tn, fdl, fdr, co, cco, hsh, key, vs, ep, rfl, R, C, a, b, ⟨ps, (N (296, tabObj ps) (mi 10 rfl)).1⟩, fun q hq => ?_⟩
  have e1 := e0 q hq
  refine ⟨e1.1.1, ?_⟩
  rcases hh : h.get? q.1 with _ | o
  · rfl
  · have := k _ _ hh (by simpa using e1.2)
    rw [e1.1.2.2] at this; cases this
local macro_rules | `(tactic| k_room) => `(tactic| ktr_room)
theorem cl_lexer : ∀ (x : Str) (tx : Tok) (hx : x.length < 1000), Cl 3 301 [.str x tx] [] [(296, tabObj #[])] (fun h => CodeHd h 300 296) (LexNew x.cps.toList) := by
  refine eps2 (ne2 ne_str ne_nat) ((?_ : ∀ a0 a1, At2 _ a0 a1) _ _)
  intros x tx
  refine At2.mk ?_
  intros hx
  k_with_none
  k_with "kne" => (refine neN ?_; (try dsimp only); first | exact Nat.ne_of_gt (by with_reducible assumption) | exact Nat.ne_of_lt (by with_reducible assumption) | with_reducible assumption | exact Ne.symm (by with_reducible assumption) | exact Nat.succ_ne_self _ | exact Ne.symm (Nat.succ_ne_self _) | (apply Nat.ne_of_gt; apply And.left; k_extra "krn"; done) | (apply Nat.ne_of_lt; apply And.left; k_extra "krn"; done) | (apply Nat.ne_of_gt; k_extra "krn"; done) | (apply Nat.ne_of_lt; k_extra "krn"; done) | k_extra "kd4" | (apply Ne.symm; k_extra "kd4") | omega)
  k_with "kd1" => first | with_reducible assumption | (apply And.left; with_reducible assumption) | (apply And.right; with_reducible assumption)
  k_with "kd2" => first | with_reducible assumption | (apply And.left; k_extra "kd1") | (apply And.right; k_extra "kd1")
  k_with "kd3" => first | with_reducible assumption | (apply And.left; k_extra "kd2") | (apply And.right; k_extra "kd2")
  k_with "kd4" => first | with_reducible assumption | (apply And.left; k_extra "kd3") | (apply And.right; k_extra "kd3")
  k_with "krn" => ((iterate 19 (first | done | with_reducible assumption | apply And.right)); done)
  k_with "omg" => first | exact Mine.room2 (by with_reducible assumption) rfl | exact Mine.units2 (by with_reducible assumption) cLine_is rfl | ((repeat (rename @Ne Nat _ _ => z9w; clear z9w)); (repeat (rename @Ne Nat _ _ ∧ _ => z9w; clear z9w)); (repeat (rename (@Ne Nat _ _ ∧ _) ∧ _ => z9w; clear z9w)); omega +splitDisjunctions)
  k_with "setAttr ref" => (k_here; (with_reducible show wpAny _ _ (setAttr (Value.ref _) (Str.ofString "read") _) _ _ _); k_dflt (refine' fn_set_K ?F ?N ?U ?_; (case F => k_asm); (case N => k_asm); (case U => k_updF); k_whole); intro D'w h'w tk'w hsh'w key'w F'w N'w l1w; (try dsimp only at N'w); (try k_lt l1w))
  k_with "storeName" => ((rename NewPlain _ _ _ _ => np'w); refine Hold.of ?_; walk_say "BREAK")
  k_with "truthy ref" => (k_here; (with_reducible show wpAny _ _ (truthy (Value.ref _)) _ _ _); k_dflt (first
    | (refine' truthy_cons ?N ?m ?z ?_; (case N => k_asm); (case m => k_mem); (case z => omega))
    | (refine' truthy_nil ?N ?m ?_; (case N => k_asm); (case m => k_mem))))
  k_with "call builtin:list.pop" => (k_here; k_dflt ((with_reducible show wpAny _ _ (call (Value.builtin _) [Value.ref _, Value.int _ _]) _ _ _); refine' pop_cons ?F ?N ?U ?z ?_; (case F => k_asm); (case N => k_asm); (case U => k_upd); (case z => omega)); intro h'w F'w N'w; (try dsimp only [List.nil_append, List.cons_append] at N'w))
  w_top off
  unfold Cl
  k_fill
  refine eps23 ne_cx ((?_ : ∀ w p loose mean mg mb dp un gd cn cs a ccd cl outer A₀ base h₀ L m s Q E, At23 _ w p loose mean mg mb dp un gd cn cs a ccd cl outer A₀ base h₀ L m s Q E) _ _ _ _ _ _ _ _ _ _ _ _ _ _ _ _ _ _ _ _ _ _ _)
  intros w p loose mean mg mb dp un gd cn cs a ccd cl outer A₀ base h₀ L m s Q E
  refine At23.mk ?_
  intros B F X T hk N hpre hd hu hret
  k_dflt (refine' enter_cells ?k1 ?k2 ?k3 ?k4 ?k5 ?kA ?kF ?kK ?k6 ?k7 ?k8 ?k9 ?kB ?kD ?_ ?c2 ?c3 ?c4; (case kA => exact rfl); (case kF => exact rfl); (case kK => assumption); (case k1 => k_asm); (case k2 => k_asm); (case k3 => k_asm); (case k4 => k_asm); (case k5 => k_asm); (case k6 => k_is); (case k7 => k_is); (case k8 => ktr_room); (case k9 => first | exact BindsTo.of_eq rfl | exact binds_K (by k_in) rfl (by k_is) rfl rfl rfl); (case kB => exact rfl); (case kD => decide +kernel); (case c2 => exact rfl); (case c3 => exact rfl); (case c4 => exact rfl); k_whole; refine eps4 (ne4 ne_heap ne_nat ne_heap ne_nat) ((?_ : ∀ a b c d, At4 _ a b c d) _ _ _ _); intros g' L' h' tk'; refine At4.mk ?_; intros cells' FG' F' N' Y' B' X' T' l1 kG'; (try k_lt l1); k_cells Y'; (try simp only [List.cons_append, List.nil_append] at N'); (try dsimp only); (try k_fold))
  have ch9 : CodeHd g' 300 296 := by
    obtain ⟨o9, vs9, z1, z2, z3, z4, z5, z6, z7, e6, e7⟩ := hpre
    exact ⟨o9, vs9, z1, z2, z3, z4, z5, z6, z7, kG' _ _ e6 (by simp), e7⟩
  k_steps
  refine Hold.on ?_
  (rename Fr g' L' _ _ => F5)
  (rename News g' L' _ _ => N4)
  (rename NewPlain _ _ _ _ => np')
  (rename CarriedAll _ _ => hc9)
  (rename Heap.get? g' _ = none => hf9)
  have nl9 := np'.ne_locals F5
  obtain ⟨⟨n9, e9⟩, d9⟩ := np'
  have q1 : @Ne Nat 296 _ := d9 _ (.tail _ (.head _))
  have q2 : @Ne Nat (L' + 1) _ := d9 _ (.head _)
  dsimp only at e9 hf9 nl9 q1 q2
  have N5 := news_more N4 e9 nl9 hf9
  clear N4 d9
  (rename Fr g' L' h' _ => F6)
  (rename News g' L' h' _ => N6)
  clear F6 N6
  rename_i oC8 dC8 hp8 tk8 ys8 hk8 xI8 mk8
  revert N5
  revert e9
  revert hc9
  revert xI8
  revert hk8
  revert F5
  revert dC8
  revert oC8 hp8 tk8 ys8 n9
  refine eps4 (ne4 ne_obj ne_heap ne_nat ne_vals) ((?_ : ∀ a0 a1 a2 a3, At4 _ a0 a1 a2 a3) _ _ _ _)
  intros oC8 hp8 tk8 ys8
  refine At4.mk ?_
  refine eps_all (ne_nat) ((?_ : ∀ a, AtE _ a) _)
  intros n9
  refine AtE.mk ?_
  intros dC8 F5 hk8 xI8 hc9 e9 N5
  (try dsimp only)
  (try k_fold)
  k_steps
  (rename News g' _ _ _ => N9)
  rename_i oT dT tkS1 fA cA ocA vsA tA ctA dcA hA2 tkA2 dA1 dA2 lA1 lA2 hA3 fB cB ocB vsB tB ctB hB2 tkB2 dB1 dB2 lB1 lB2 hB3 xX dX hX FX NX lX1 lX2 gX LX hX2 FGX BX XX TX tkS2 h3 h4 h5 lL h6 lL1 hZ FZ NZ kF1 Tc1 kX1 kF2 kN2 Tc2 kX2
  clear FX NX FGX BX XX TX FZ NZ kF2 kN2 Tc2 kX2 qk ek
  revert N9
  revert kF1
  revert lL1
  revert lX2
  revert lX1
  revert l1w
  revert lB2
  revert lB1
  revert dB2
  revert dB1
  revert lA2
  revert lA1
  revert dA2
  revert dA1
  revert dT
  revert oT fA cA ocA vsA tA ctA dcA fB cB ocB vsB tB ctB D'w hsh'w key'w xX dX hX2 tkS2 h3 h4 h5 lL h6 hZ tk
  refine eps23 (ne23 ne_obj ne_nat ne_nat ne_obj (⟨#[]⟩) ne_nat ne_value ne_value ne_nat ne_nat ne_obj (⟨#[]⟩) ne_nat ne_value ne_nat ne_int ne_nat ne_nat ne_nat ne_heap ne_nat ne_heap ne_heap) ((?_ : ∀ a0 a1 a2 a3 a4 a5 a6 a7 a8 a9 a10 a11 a12 a13 a14 a15 a16 a17 a18 a19 a20 a21 a22, At23 _ a0 a1 a2 a3 a4 a5 a6 a7 a8 a9 a10 a11 a12 a13 a14 a15 a16 a17 a18 a19 a20 a21 a22) _ _ _ _ _ _ _ _ _ _ _ _ _ _ _ _ _ _ _ _ _ _ _)
  intros oT fA cA ocA vsA tA ctA dcA fB cB ocB vsB tB ctB D'w hsh'w key'w xX dX hX2 tkS2 h3 h4
  refine At23.mk ?_
  refine eps4 (ne4 ne_heap ne_nat ne_heap ne_heap) ((?_ : ∀ a0 a1 a2 a3, At4 _ a0 a1 a2 a3) _ _ _ _)
  intros h5 lL h6 hZ
  refine At4.mk ?_
  refine eps_all (ne_nat) ((?_ : ∀ a, AtE _ a) _)
  intros tk
  refine AtE.mk ?_
  intros dT dA1 dA2 lA1 lA2 dB1 dB2 lB1 lB2 l1w lX1 lX2 lL1 kF1 N9
  refine hret _ _ _ (fun b o e hb => Fr.keep (by with_reducible assumption) b o (kG' b o e hb)) (lexNew_of N9 kG' ?_ (Chars.of_carried ?_) ?_ ?_ ?_)
  rotate_left
  · rw [signs, List.map_map] at hc9; exact hc9
  · refine ⟨⟨?_, ?_, ?_⟩, ⟨?_, ?_, ?_, ?_⟩, ?_, ?_, ?_, ?_, ?_, ?_⟩ <;> omega
  · refine ⟨⟨?_, ?_, ?_⟩, ?_, ?_, ?_, ?_, ?_⟩ <;> omega
  · intro b hb
    simp only [List.mem_cons, List.not_mem_nil, or_false] at hb
    show @Ne Nat b 296
    rcases hb with rfl | rfl | rfl | rfl | rfl | rfl | rfl | rfl | rfl <;> omega
  constructor
  ·
    refine eps4 (ne4 ne_str ne_nat ne_vals ne_nat) ((?_ : ∀ a0 a1 a2 a3, At4 _ a0 a1 a2 a3) _ _ _ _)
    intros c tc xs ep
    refine At4.mk ?_
    refine eps_all (ne_nat) ((?_ : ∀ a, AtE _ a) _)
    intros t
    refine AtE.mk ?_
    intros hz9
    k_with_none
    k_with "kne" => (refine neN ?_; (try dsimp only); first | exact Nat.ne_of_gt (by with_reducible assumption) | exact Nat.ne_of_lt (by with_reducible assumption) | with_reducible assumption | exact Ne.symm (by with_reducible assumption) | exact Nat.succ_ne_self _ | exact Ne.symm (Nat.succ_ne_self _) | (apply Nat.ne_of_gt; apply And.left; k_extra "krn"; done) | (apply Nat.ne_of_lt; apply And.left; k_extra "krn"; done) | (apply Nat.ne_of_gt; k_extra "krn"; done) | (apply Nat.ne_of_lt; k_extra "krn"; done) | k_extra "kd4" | (apply Ne.symm; k_extra "kd4") | omega)
    k_with "kd1" => first | with_reducible assumption | (apply And.left; with_reducible assumption) | (apply And.right; with_reducible assumption)
    k_with "kd2" => first | with_reducible assumption | (apply And.left; k_extra "kd1") | (apply And.right; k_extra "kd1")
    k_with "kd3" => first | with_reducible assumption | (apply And.left; k_extra "kd2") | (apply And.right; k_extra "kd2")
    k_with "kd4" => first | with_reducible assumption | (apply And.left; k_extra "kd3") | (apply And.right; k_extra "kd3")
    k_with "krn" => ((iterate 19 (first | done | with_reducible assumption | apply And.right)); done)
    k_with "omg" => first | exact Mine.room2 (by with_reducible assumption) rfl | exact Mine.units2 (by with_reducible assumption) cLine_is rfl | ((repeat (rename @Ne Nat _ _ => z9w; clear z9w)); (repeat (rename @Ne Nat _ _ ∧ _ => z9w; clear z9w)); (repeat (rename (@Ne Nat _ _ ∧ _) ∧ _ => z9w; clear z9w)); omega +splitDisjunctions)
    k_with "setAttr ref" => (k_here; (with_reducible show wpAny _ _ (setAttr (Value.ref _) (Str.ofString "read") _) _ _ _); k_dflt (refine' fn_set_K ?F ?N ?U ?_; (case F => k_asm); (case N => k_asm); (case U => k_updF); k_whole); intro D'w h'w tk'w hsh'w key'w F'w N'w l1w; (try dsimp only at N'w); (try k_lt l1w))
    k_with "storeName" => ((rename NewPlain _ _ _ _ => np'w); refine Hold.of ?_; walk_say "BREAK")
    k_with "truthy ref" => (k_here; (with_reducible show wpAny _ _ (truthy (Value.ref _)) _ _ _); k_dflt (first
      | (refine' truthy_cons ?N ?m ?z ?_; (case N => k_asm); (case m => k_mem); (case z => omega))
      | (refine' truthy_nil ?N ?m ?_; (case N => k_asm); (case m => k_mem))))
    k_with "call builtin:list.pop" => (k_here; k_dflt ((with_reducible show wpAny _ _ (call (Value.builtin _) [Value.ref _, Value.int _ _]) _ _ _); refine' pop_cons ?F ?N ?U ?z ?_; (case F => k_asm); (case N => k_asm); (case U => k_upd); (case z => omega)); intro h'w F'w N'w; (try dsimp only [List.nil_append, List.cons_append] at N'w))
    w_top off
    unfold Cl
    k_fill
    refine eps23 ne_cx ((?_ : ∀ w p loose mean mg mb dp un gd cn cs a ccd cl outer A₀ base h₀ L m s Q E, At23 _ w p loose mean mg mb dp un gd cn cs a ccd cl outer A₀ base h₀ L m s Q E) _ _ _ _ _ _ _ _ _ _ _ _ _ _ _ _ _ _ _ _ _ _ _)
    intros w p loose mean mg mb dp un gd cn cs a ccd cl outer A₀ base h₀ L m s Q E
    refine At23.mk ?_
    intros B F X T hk N hpre hd hu hret
    k_dflt (refine' enter_nest ?n1 ?n2 ?n3 ?n4 ?n5 ?nA ?nF ?nK ?n6 ?n7 ?n8 ?n9 ?nB ?_ ?m2 ?m3 ?m4 ?m5; (case nA => exact rfl); (case nF => exact rfl); (case nK => assumption); (case n1 => k_asm); (case n2 => k_asm); (case n3 => k_asm); (case n4 => k_asm); (case n5 => k_asm); (case n6 => k_mem); (case n7 => exact codeRec_news (by k_asm) (by k_mem) (by assumption) (by assumption)); (case n8 => ktr_room); (case n9 => exact BindsTo.of_eq rfl); (case m5 => decide); (case nB => exact locs rfl); (case m2 => exact rfl); (case m3 => exact rfl); (case m4 => exact rfl); k_whole; refine eps3 (ne3 ne_heap ne_nat ne_heap) ((?_ : ∀ a b c, At3 _ a b c) _ _ _); intros g' L' h'; refine At3.mk ?_; intros FG' F' N' B' X' T' kG'; (try dsimp only); (try k_fold))
    obtain ⟨n1, n2, n3⟩ := hpre
    have n4 : @Ne Nat _ _ := n1
    have n5 : @Ne Nat _ _ := n2
    have n6 : @Ne Nat _ _ := n3
    dsimp only [rdSub] at N'
    k_steps
    (rename News g' _ _ _ => N8)
    exact hret _ _ _ (fun b o e hb => Fr.keep (by with_reducible assumption) b o (kG' b o e hb)) ⟨rfl, (N8 (_, _) (List.mem_of_getElem? (i := 3) rfl)).1, fun q hq hne => (N8 q (by
      simp only [rdSub, List.mem_cons, List.not_mem_nil, or_false] at hq ⊢
      rcases hq with hq | hq | hq | hq
      · exact .inl hq
      · exact .inr (.inl hq)
      · exact .inr (.inr (.inl hq))
      · subst hq; exact absurd rfl hne)).1⟩
  ·
    refine eps2 (ne2 ne_nat ne_nat) ((?_ : ∀ a0 a1, At2 _ a0 a1) _ _)
    intros ep t
    refine At2.mk ?_
    set_option tactic.hygienic false in intros
    k_with_none
    k_with "kne" => (refine neN ?_; (try dsimp only); first | exact Nat.ne_of_gt (by with_reducible assumption) | exact Nat.ne_of_lt (by with_reducible assumption) | with_reducible assumption | exact Ne.symm (by with_reducible assumption) | exact Nat.succ_ne_self _ | exact Ne.symm (Nat.succ_ne_self _) | (apply Nat.ne_of_gt; apply And.left; k_extra "krn"; done) | (apply Nat.ne_of_lt; apply And.left; k_extra "krn"; done) | (apply Nat.ne_of_gt; k_extra "krn"; done) | (apply Nat.ne_of_lt; k_extra "krn"; done) | k_extra "kd4" | (apply Ne.symm; k_extra "kd4") | omega)
    k_with "kd1" => first | with_reducible assumption | (apply And.left; with_reducible assumption) | (apply And.right; with_reducible assumption)
    k_with "kd2" => first | with_reducible assumption | (apply And.left; k_extra "kd1") | (apply And.right; k_extra "kd1")
    k_with "kd3" => first | with_reducible assumption | (apply And.left; k_extra "kd2") | (apply And.right; k_extra "kd2")
    k_with "kd4" => first | with_reducible assumption | (apply And.left; k_extra "kd3") | (apply And.right; k_extra "kd3")
    k_with "krn" => ((iterate 19 (first | done | with_reducible assumption | apply And.right)); done)
    k_with "omg" => first | exact Mine.room2 (by with_reducible assumption) rfl | exact Mine.units2 (by with_reducible assumption) cLine_is rfl | ((repeat (rename @Ne Nat _ _ => z9w; clear z9w)); (repeat (rename @Ne Nat _ _ ∧ _ => z9w; clear z9w)); (repeat (rename (@Ne Nat _ _ ∧ _) ∧ _ => z9w; clear z9w)); omega +splitDisjunctions)
    k_with "setAttr ref" => (k_here; (with_reducible show wpAny _ _ (setAttr (Value.ref _) (Str.ofString "read") _) _ _ _); k_dflt (refine' fn_set_K ?F ?N ?U ?_; (case F => k_asm); (case N => k_asm); (case U => k_updF); k_whole); intro D'w h'w tk'w hsh'w key'w F'w N'w l1w; (try dsimp only at N'w); (try k_lt l1w))
    k_with "storeName" => ((rename NewPlain _ _ _ _ => np'w); refine Hold.of ?_; walk_say "BREAK")
    k_with "truthy ref" => (k_here; (with_reducible show wpAny _ _ (truthy (Value.ref _)) _ _ _); k_dflt (first
      | (refine' truthy_cons ?N ?m ?z ?_; (case N => k_asm); (case m => k_mem); (case z => omega))
      | (refine' truthy_nil ?N ?m ?_; (case N => k_asm); (case m => k_mem))))
    k_with "call builtin:list.pop" => (k_here; k_dflt ((with_reducible show wpAny _ _ (call (Value.builtin _) [Value.ref _, Value.int _ _]) _ _ _); refine' pop_cons ?F ?N ?U ?z ?_; (case F => k_asm); (case N => k_asm); (case U => k_upd); (case z => omega)); intro h'w F'w N'w; (try dsimp only [List.nil_append, List.cons_append] at N'w))
    w_top off
    unfold Cl
    k_fill
    refine eps23 ne_cx ((?_ : ∀ w p loose mean mg mb dp un gd cn cs a ccd cl outer A₀ base h₀ L m s Q E, At23 _ w p loose mean mg mb dp un gd cn cs a ccd cl outer A₀ base h₀ L m s Q E) _ _ _ _ _ _ _ _ _ _ _ _ _ _ _ _ _ _ _ _ _ _ _)
    intros w p loose mean mg mb dp un gd cn cs a ccd cl outer A₀ base h₀ L m s Q E
    refine At23.mk ?_
    intros B F X T hk N hpre hd hu hret
    k_dflt (refine' enter_nest ?n1 ?n2 ?n3 ?n4 ?n5 ?nA ?nF ?nK ?n6 ?n7 ?n8 ?n9 ?nB ?_ ?m2 ?m3 ?m4 ?m5; (case nA => exact rfl); (case nF => exact rfl); (case nK => assumption); (case n1 => k_asm); (case n2 => k_asm); (case n3 => k_asm); (case n4 => k_asm); (case n5 => k_asm); (case n6 => k_mem); (case n7 => exact codeRec_news (by k_asm) (by k_mem) (by assumption) (by assumption)); (case n8 => ktr_room); (case n9 => exact BindsTo.of_eq rfl); (case m5 => decide); (case nB => exact locs rfl); (case m2 => exact rfl); (case m3 => exact rfl); (case m4 => exact rfl); k_whole; refine eps3 (ne3 ne_heap ne_nat ne_heap) ((?_ : ∀ a b c, At3 _ a b c) _ _ _); intros g' L' h'; refine At3.mk ?_; intros FG' F' N' B' X' T' kG'; (try dsimp only); (try k_fold))
    dsimp only [rdSub] at N'
    k_steps
    (rename News g' _ _ _ => N8)
    exact hret _ _ _ (fun b o e hb => Fr.keep (by with_reducible assumption) b o (kG' b o e hb)) ⟨⟨_, rfl⟩, fun q hq => (N8 q hq).1⟩
end Mine
-- Sre
namespace Mine
open PySem.Builtin PySem.Builtin.Re
theorem pt_slot : Slot "re.Pattern" "search" "re.Pattern.search" := .of (owner := "re.Pattern") (n := "search") (by rw [typeLookup_type, builtinLookup_eq_fast]; kernel_rfl) (by decide +kernel) (by decide +kernel) (by decide +kernel)
    (by first | exact .inl (by decide +kernel) | exact .inr (by decide +kernel)) (by rw [isSubtype_type]; kernel_rfl)
theorem pt_plain : PlainAttrs "re.Pattern" := ⟨⟨"object.__getattribute__", by rw [typeLookup_type, builtinLookup_eq_fast]; kernel_rfl, by decide +kernel⟩, by rw [typeLookup_type, builtinLookup_eq_fast]; kernel_rfl⟩
theorem pt_type : typeOf (.builtin "re.Pattern.search") = pure (.type "method_descriptor") := by kernel_rfl
theorem pt_entry : entryFor table "re.Pattern.search" = some Builtin.«re.Pattern.search» := entryFor_of_tree (by kernel_rfl)
theorem pt_args (a b : Value) : argsOk "re.Pattern.search" ⟨[a, b], []⟩ := by unfold argsOk; kernel_rfl
/-- the machine's turns till an outcome stands -/
noncomputable def endsIn : Nat → Sre.M → Option Sre.M
  | 0, _ => none
  | k + 1, m => let m' := m.runFor reTurnSteps; if m'.outcome.isSome then some m' else endsIn k m'
section
variable {M : Model} {A : Around} {E : Value → Shared → Prop} {s : Shared}
theorem drive_ends {Q : Sre.M → Shared → Prop} : ∀ (k n : Nat) (m m' : Sre.M), endsIn k m = some m' → k ≤ n → Q m' s → wpAny M A (reDrive n m) Q E s
  | 0, _, _, _, e, _, _ => by cases e
  | k + 1, 0, _, _, _, h, _ => by omega
  | k + 1, n + 1, m, m', e, h, q => by
    unfold reDrive
    unfold endsIn at e
    dsimp only at e ⊢
    by_cases c : (m.runFor reTurnSteps).outcome.isSome = true
    · rw [if_pos c] at e ⊢
      cases e
      exact wpAny_pure q
    · rw [if_neg c] at e ⊢
      exact wpAny_bind (wpAny_rule (drive_ends k n _ _ e (by omega) q))
theorem each_rule {Q : PUnit → Shared → Prop} (c : Nat → Bool) (t : Nat → String) : ∀ (l : List Nat), Q ⟨⟩ s → wpAny M A (forIn l PUnit.unit fun i _ => (if c i = true then rule (t i) >>= fun _ => pure (ForInStep.yield PUnit.unit) else pure (ForInStep.yield PUnit.unit) : Sem (ForInStep PUnit))) Q E s
  | [], h => by rw [List.forIn_nil]; exact wpAny_pure h
  | i :: l, h => by
    rw [List.forIn_cons]
    refine wpAny_bind ?_
    by_cases hc : c i = true
    · rw [if_pos hc]
      exact wpAny_bind (wpAny_rule (wpAny_pure (each_rule c t l h)))
    · rw [if_neg hc]
      exact wpAny_pure (each_rule c t l h)
theorem run_fails {Q : Option Sre.M → Shared → Prop} {k : Nat} {m m' : Sre.M} (e : endsIn k m = some m') (hk : k ≤ 1000) (ho : m'.outcome = some .failed) (h : Q none s) : wpAny M A (reRunToEnd m) Q E s := by
  unfold reRunToEnd
  refine wpAny_bind (drive_ends k _ _ _ e (by omega) ?_)
  refine wpAny_bind ?_
  refine each_rule (fun i => m'.seen.has i) (fun i => Sre.names.getD i "") _ ?_
  rw [ho]
  exact wpAny_pure h
end
theorem pt_named (x : Str) (t : Tok) : reNamed "re.Pattern.search" "search" ["string", "pos", "endpos"] 1 [.str x t] [] = pure [some (.str x t), none, none] := by kernel_rfl
theorem pt_text (x : Str) (t : Tok) : reTextOf (.str x t) = pure (x.cps, 0) := by kernel_rfl
theorem pt_quiet (v : Value) : reNoCollectionInside v 0 = pure () := by kernel_rfl
noncomputable abbrev ptSpec (x : Str) (P C : Addr) : PySem.Spec := fun _ R s => (∃ o fs oc items n k m', s.heap.get? P = some o ∧ o.data = .fields fs ∧ fs.getD 5 .none = .ref C ∧ reRawNat (fs.getD 6 .none) = 0 ∧ s.heap.get? C = some oc ∧ oc.data = .seq items n ∧
    endsIn k (Sre.forSearch ((items.map reRawOf).map (·.toNat)) x.cps (reRawNat (fs.getD 2 .none)) (min (0 : Int).toNat x.cps.size) (min (2 ^ 63 - 1 : Int).toNat x.cps.size) false) = some m' ∧ k ≤ 1000 ∧ m'.outcome = some .failed) ∧ R (.ok (.ret .none)) s
theorem pt_meets (x : Str) (t : Tok) (P C : Addr) : Meets (Builtin.«re.Pattern.search» ⟨[.ref P, .str x t], []⟩) (ptSpec x P C) := by
  refine .of_wp fun prog w A R s hS => ?_
  obtain ⟨⟨o, fs, oc, items, n, k, m', h1, h2, h3, h4, h5, h6, h7, hk, h8⟩, h⟩ := hS
  unfold Builtin.«re.Pattern.search» reTarget
  dsimp only
  rw [pt_named]
  refine wpAny_bind (wpAny_bind (wpAny_pure ?_))
  dsimp only
  refine wpAny_bind (wpAny_pure (wpAny_bind (wpAny_pure (wpAny_bind (wpAny_fieldsOf h1 h2 (wpAny_bind ?_))))))
  rw [pt_text]
  refine wpAny_pure ?_
  dsimp only
  rw [h4, h3, if_neg (by decide), if_neg (by decide), pt_quiet]
  refine wpAny_bind (wpAny_pure (wpAny_bind ?_))
  unfold reRawItems
  refine wpAny_bind (wpAny_seqItems h5 h6 (wpAny_pure (wpAny_pure ?_)))
  unfold reAnswer
  exact wpAny_bind (run_fails h7 hk h8 (wpAny_pure ⟨_, rfl, h⟩))
theorem pt_method {prog : Program} {w : World} {A : Around} {E : Value → Shared → Prop} {s : Shared} {P : Addr} {o : Obj} {pl : Sem Bool} {Q : Value × List Value → Shared → Prop} (hP : s.heap.get? P = some o) (hc : o.cls = .type "re.Pattern") (hd : o.dict = none)
    (h : Q (.builtin "re.Pattern.search", [.ref P]) s) : wpAny (model prog w) A (getMethod (.ref P) (Str.ofString "search") pl) Q E s :=
  getMethod_builtin (T := "re.Pattern") ⟨o, hP, hc⟩ pt_plain pt_slot pt_type (fun a e => by cases e; exact ⟨o, hP, hd⟩) h
theorem pt_search {prog : Program} {w : World} {A : Around} {E : Value → Shared → Prop} {s : Shared} {P C : Addr} {x : Str} {t : Tok} {Q : Value → Shared → Prop} {o oc : Obj} {fs items : Array Value} {n k : Nat} {m' : Sre.M}
    (h1 : s.heap.get? P = some o) (hc : o.cls = .type "re.Pattern") (h2 : o.data = .fields fs) (h3 : fs.getD 5 .none = .ref C) (h4 : reRawNat (fs.getD 6 .none) = 0) (h5 : s.heap.get? C = some oc) (h6 : oc.data = .seq items n)
    (h7 : endsIn k (Sre.forSearch ((items.map reRawOf).map (·.toNat)) x.cps (reRawNat (fs.getD 2 .none)) (min (0 : Int).toNat x.cps.size) (min (2 ^ 63 - 1 : Int).toNat x.cps.size) false) = some m') (hk : k ≤ 1000) (h8 : m'.outcome = some .failed)
    (h : Q .none s) : wpAny (model prog w) A (call (.builtin "re.Pattern.search") [.ref P, .str x t]) Q E s :=
  call_meets pt_slot ⟨o, h1, hc⟩ pt_entry (pt_args _ _) (pt_meets x t P C) ⟨⟨o, fs, oc, items, n, k, m', h1, h2, h3, h4, h5, h6, h7, hk, h8⟩, h⟩
end Mine
-- Cst
namespace Mine
open PySem.Builtin PySem.Builtin.Re
noncomputable def okSearch (code : Array Nat) (x : List Nat) : Bool :=
  match endsIn 100 (Sre.forSearch code x.toArray 0 (min (0 : Int).toNat x.toArray.size) (min (2 ^ 63 - 1 : Int).toNat x.toArray.size) false) with
  | some m => (match m.outcome with | some .failed => true | _ => false)
  | none => false
theorem okSearch_ends {code : Array Nat} {x : List Nat} (h : okSearch code x = true) : ∃ m', endsIn 100 (Sre.forSearch code x.toArray 0 (min (0 : Int).toNat x.toArray.size) (min (2 ^ 63 - 1 : Int).toNat x.toArray.size) false) = some m' ∧ m'.outcome = some .failed := by
  unfold okSearch at h
  split at h
  · rename_i m e
    refine ⟨m, e, ?_⟩
    split at h
    · rename_i e2; exact e2
    · cases h
  · cases h
/-- the texts that the headers hold -/
noncomputable def okTexts : List (List Nat) := (List.range 6).map (List.replicate · 65) ++ (List.range 6).map (List.replicate · 97) ++ (List.range 16).map ([65 + ·])
noncomputable def codeAt (K : Frag) (a : Addr) : Array Nat := match K.lookup a with
  | some ⟨_, _, .seq items _, _⟩ => (items.map reRawOf).map (·.toNat)
  | _ => #[]
theorem ok131 (q : Params) : (okTexts.all fun x => okSearch (codeAt (hd.heap_1 q) 131) x) = true := by kernel_rfl
theorem ok136 (q : Params) : (okTexts.all fun x => okSearch (codeAt (hd.heap_1 q) 136) x) = true := by kernel_rfl
section
variable {prog : Program} {w : World} {A : Around} {E : Value → Shared → Prop} {s : Shared} {q : Params}
theorem search_name {x : List Nat} {t : Tok} {Q : Value → Shared → Prop} (X : (hd.heap_1 q).In s.heap) (hx : x ∈ okTexts) (h : Q .none s) : wpAny (model prog w) A (call (.builtin "re.Pattern.search") [.ref 132, .str ⟨x.toArray⟩ t]) Q E s := by
  obtain ⟨m', e, ho⟩ := okSearch_ends (List.all_eq_true.mp (ok131 q) x hx)
  exact pt_search (X 132 _ rfl) rfl rfl rfl rfl (X 131 _ rfl) rfl e (by decide) ho h
theorem search_value {x : List Nat} {t : Tok} {Q : Value → Shared → Prop} (X : (hd.heap_1 q).In s.heap) (hx : x ∈ okTexts) (h : Q .none s) : wpAny (model prog w) A (call (.builtin "re.Pattern.search") [.ref 137, .str ⟨x.toArray⟩ t]) Q E s := by
  obtain ⟨m', e, ho⟩ := okSearch_ends (List.all_eq_true.mp (ok136 q) x hx)
  exact pt_search (X 137 _ rfl) rfl rfl rfl rfl (X 136 _ rfl) rfl e (by decide) ho h
theorem meth132 {pl : Sem Bool} {Q : Value × List Value → Shared → Prop} (X : (hd.heap_1 q).In s.heap) (h : Q (.builtin "re.Pattern.search", [.ref 132]) s) : wpAny (model prog w) A (getMethod (.ref 132) (Str.ofString "search") pl) Q E s := pt_method (X 132 _ rfl) rfl rfl h
theorem meth137 {pl : Sem Bool} {Q : Value × List Value → Shared → Prop} (X : (hd.heap_1 q).In s.heap) (h : Q (.builtin "re.Pattern.search", [.ref 137]) s) : wpAny (model prog w) A (getMethod (.ref 137) (Str.ofString "search") pl) Q E s := pt_method (X 137 _ rfl) rfl rfl h
end
theorem cl_conv : ∀ (self : Value) (x : List Nat) (tx : Tok) (hx : x ∈ okTexts) (b : Bool), Cl 1 167 [self, .str ⟨x.toArray⟩ tx] [(Str.ofString "name", .bool b)] [] (fun _ => True) (fun v _ _ => v = .str ⟨x.toArray⟩ tx) := by
  refine eps3 (ne3 ne_value (⟨[]⟩) ne_nat) ((?_ : ∀ a0 a1 a2, At3 _ a0 a1 a2) _ _ _)
  intros self x tx
  refine At3.mk ?_
  intros hx
  refine eps_all (⟨true⟩) ((?_ : ∀ a, AtE _ a) _)
  intros b
  refine AtE.mk ?_
  k_with_none
  k_with "kne" => (refine neN ?_; (try dsimp only); first | exact Nat.ne_of_gt (by with_reducible assumption) | exact Nat.ne_of_lt (by with_reducible assumption) | with_reducible assumption | exact Ne.symm (by with_reducible assumption) | exact Nat.succ_ne_self _ | exact Ne.symm (Nat.succ_ne_self _) | (apply Nat.ne_of_gt; apply And.left; k_extra "krn"; done) | (apply Nat.ne_of_lt; apply And.left; k_extra "krn"; done) | (apply Nat.ne_of_gt; k_extra "krn"; done) | (apply Nat.ne_of_lt; k_extra "krn"; done) | k_extra "kd4" | (apply Ne.symm; k_extra "kd4") | omega)
  k_with "kd1" => first | with_reducible assumption | (apply And.left; with_reducible assumption) | (apply And.right; with_reducible assumption)
  k_with "kd2" => first | with_reducible assumption | (apply And.left; k_extra "kd1") | (apply And.right; k_extra "kd1")
  k_with "kd3" => first | with_reducible assumption | (apply And.left; k_extra "kd2") | (apply And.right; k_extra "kd2")
  k_with "kd4" => first | with_reducible assumption | (apply And.left; k_extra "kd3") | (apply And.right; k_extra "kd3")
  k_with "krn" => ((iterate 19 (first | done | with_reducible assumption | apply And.right)); done)
  k_with "omg" => first | exact Mine.room2 (by with_reducible assumption) rfl | exact Mine.units2 (by with_reducible assumption) cLine_is rfl | ((repeat (rename @Ne Nat _ _ => z9w; clear z9w)); (repeat (rename @Ne Nat _ _ ∧ _ => z9w; clear z9w)); (repeat (rename (@Ne Nat _ _ ∧ _) ∧ _ => z9w; clear z9w)); omega +splitDisjunctions)
  k_with "getMethod ref" => (k_here; k_dflt (first | (refine' meth132 ?X ?_; (case X => k_in)) | (refine' meth137 ?X ?_; (case X => k_in))))
  k_with "call builtin:re.Pattern.search" => (k_here; k_dflt (first | (refine' search_name ?X ?x ?_; (case X => k_in); (case x => assumption)) | (refine' search_value ?X ?x ?_; (case X => k_in); (case x => assumption))))
  w_top off
  unfold Cl
  k_fill
  refine eps23 ne_cx ((?_ : ∀ w p loose mean mg mb dp un gd cn cs a ccd cl outer A₀ base h₀ L m s Q E, At23 _ w p loose mean mg mb dp un gd cn cs a ccd cl outer A₀ base h₀ L m s Q E) _ _ _ _ _ _ _ _ _ _ _ _ _ _ _ _ _ _ _ _ _ _ _)
  intros w p loose mean mg mb dp un gd cn cs a ccd cl outer A₀ base h₀ L m s Q E
  refine At23.mk ?_
  intros B F X T hk N hpre hd hu hret
  k_dflt (refine' code_defG ?k1 ?k2 ?k3 ?k4 ?k5 ?kA ?kF ?kK ?k6 ?k7 ?k8 ?k9 ?kB ?_ ?c2 ?c3 ?c4 ?c5; (case kA => exact rfl); (case kF => exact rfl); (case kK => assumption); (case k1 => k_asm); (case k2 => k_asm); (case k3 => k_asm); (case k4 => k_asm); (case k5 => k_asm); (case k6 => k_is); (case k7 => k_is); (case k8 => ktr_room); (case k9 => first | exact BindsTo.of_eq rfl | exact binds_K (by k_in) rfl (by k_is) rfl rfl rfl); (case c5 => decide); (case kB => exact locs rfl); (case c2 => exact rfl); (case c3 => exact rfl); (case c4 => exact rfl); k_whole; refine eps3 (ne3 ne_heap ne_nat ne_heap) ((?_ : ∀ a b c, At3 _ a b c) _ _ _); intros g' L' h'; refine At3.mk ?_; intros FG' F' N' B' X' T' kG'; (try dsimp only); (try k_fold))
  k_steps
  all_goals exact hret _ _ _ (fun b o e hb => Fr.keep (by with_reducible assumption) b o (kG' b o e hb)) rfl
end Mine
-- RngFor
namespace Mine
noncomputable abbrev rngObj (x left : Int) : Obj := { cls := .type "range_iterator", data := .fields #[rawInt x, rawInt left, rawInt 1] }
section
variable {prog : Program} {w : World} {A : Around} {E : Value → Shared → Prop} {env : Env} {h₀ : Heap} {L : Addr} {m₀ : Str → Option Value} {s : Shared} {Q : Flow → Shared → Prop} {σ : Type}
/-- what holds between the turns of a range's loop -/
noncomputable def RngAt (h₀ : Heap) (L I : Addr) (a n : Int) (led : Nat → σ → Led) (mP : Nat → σ → (Str → Option Value) → Prop) (P : Nat → σ → Prop) (s : Shared) (i : Nat) (s₂ : Shared) : Prop :=
  ∃ c m h tk, s₂ = { s with heap := h, toks := tk } ∧ P i c ∧ mP i c m ∧ Fr h₀ L h m ∧ News h₀ L h ((I, rngObj (a + i) (n - i)) :: led i c) ∧ ∀ q ∈ led i c, q.1 ≠ I
noncomputable def RngTurn (h₀ : Heap) (L I : Addr) (a n : Int) (led : Nat → σ → Led) (mP : Nat → σ → (Str → Option Value) → Prop) (P : Nat → σ → Prop) (s : Shared) (i : Nat) (Q : Flow → Shared → Prop) (f : Flow) (s₂ : Shared) : Prop :=
  match f with
  | .next | .cont => RngAt h₀ L I a n led mP P s i s₂
  | .brk => False
  | .ret v => Q (.ret v) s₂
theorem RngTurn.again {I : Addr} {a n : Int} {led : Nat → σ → Led} {mP : Nat → σ → (Str → Option Value) → Prop} {P : Nat → σ → Prop} {i : Nat} {s₂ : Shared} (h : RngAt h₀ L I a n led mP P s i s₂) : RngTurn h₀ L I a n led mP P s i Q .next s₂ := h
theorem RngTurn.againC {I : Addr} {a n : Int} {led : Nat → σ → Led} {mP : Nat → σ → (Str → Option Value) → Prop} {P : Nat → σ → Prop} {i : Nat} {s₂ : Shared} (h : RngAt h₀ L I a n led mP P s i s₂) : RngTurn h₀ L I a n led mP P s i Q .cont s₂ := h
theorem RngTurn.retn {I : Addr} {a n : Int} {led : Nat → σ → Led} {mP : Nat → σ → (Str → Option Value) → Prop} {P : Nat → σ → Prop} {i : Nat} {s₂ : Shared} {v : Value} (h : Q (.ret v) s₂) : RngTurn h₀ L I a n led mP P s i Q (.ret v) s₂ := h
theorem rng_for {tgt : Expr} {body : List Stmt} {r : Addr} {a b : Int} {t u v : Tok} (n : Nat) (led : Nat → σ → Led) (mP : Nat → σ → (Str → Option Value) → Prop) (P : Nat → σ → Prop) (c₀ : σ)
    (hh : A.handled = none) (hr : IsRange s.heap r a b 1 t u v) (hsmall : Builtin.Range.small a b 1 = true) (hn : Builtin.Range.rangeSize a b 1 = (n : Int)) (F : Fr h₀ L s.heap m₀) (N : News h₀ L s.heap (led 0 c₀)) (h0 : P 0 c₀) (hm0 : mP 0 c₀ m₀)
    (turn : ∀ (i : Nat) (c : σ) m t h tk, i < n → P i c → mP i c m → Fr h₀ L h m → News h₀ L h ((s.heap.objs.size, rngObj (a + (i + 1 : Nat)) (n - (i + 1 : Nat))) :: led i c) → (∀ q ∈ led i c, q.1 ≠ s.heap.objs.size) →
      wpAny (model prog w) A (assign tgt env (.int (a + i) t)) (fun _ s₂ => wpAny (model prog w) A (execs body env) (RngTurn h₀ L s.heap.objs.size a n led mP P s (i + 1) Q) E s₂) E { s with heap := h, toks := tk })
    (done : ∀ (c : σ) m h tk, P n c → mP n c m → Fr h₀ L h m → News h₀ L h (led n c) → Q .next { s with heap := h, toks := tk })
    (hE : PassesOwn (model prog w) A env E := by passes_own) (ht : ∀ it v, letOwnedTupleGo tgt it v = pure () := by intro _ _; rfl) :
    wpAny (model prog w) A (pyIter (.ref r)) (fun it s₂ => codeAny (model prog w) A (.forLoop tgt it body [] env) (fun r s' => match r with | .ok f => Q f s' | .error e => cameBackBy (model prog w) A env E e s') s₂) E s := by
  refine wpAny_pyIter_range hr hsmall ?_
  refine codeAny_forLoop (fun k s' => ∃ i : Nat, k = n - i ∧ i ≤ n ∧ RngAt h₀ L s.heap.objs.size a n led mP P s i s') ?_ n ⟨0, rfl, Nat.zero_le _, c₀, m₀, _, s.toks, rfl, h0, hm0, F.push _, ?_, fun q hq => Nat.ne_of_lt (Heap.lt_size (N q hq).1)⟩ (ht _)
  · rintro k s' ⟨i, rfl, hi, c, m, h, tk, rfl, hp, hm, F', N', hI⟩
    have hit : IsRangeIter h s.heap.objs.size (a + i) (n - i) 1 := (N' _ (.head _)).1
    have zI := (N' _ (.head _)).2
    by_cases e : i < n
    · refine wpAny_pyNext_range_item hit (by omega) fun h' hit' hs => ?_
      have F2 : Fr h₀ L h' m := by
        obtain ⟨oL, es3, ep3, hL, r3⟩ := F'.ns
        exact ⟨⟨oL, es3, ep3, hs.extBut _ _ (Ne.symm zI.1) hL, r3⟩, fun b o e => hs.extBut _ _ (fun q => by have := zI.2; rw [← q, e] at this; cases this) (F'.keep b o e), F'.above⟩
      have N2 : News h₀ L h' ((s.heap.objs.size, rngObj (a + (i + 1 : Nat)) (n - (i + 1 : Nat))) :: led i c) := by
        intro q hq
        rcases List.mem_cons.mp hq with rfl | hq
        · refine ⟨?_, zI⟩
          have e1 : a + ((i + 1 : Nat) : Int) = a + i + 1 := by omega
          have e2 : (n : Int) - ((i + 1 : Nat) : Int) = n - i - 1 := by omega
          rw [e1, e2]
          exact hit'
        · have y := N' q (.tail _ hq)
          exact ⟨hs.extBut _ _ (hI q hq) y.1, y.2⟩
      refine wpAny_mono (wpAny_passesOwn hE (turn i c m _ h' _ e hp hm F2 N2 hI)) (fun _ s₃ z => ?_) fun _ _ e => e
      refine wpAny_mono (wpAny_passesOwn hE z) (fun f s₄ z => ?_) fun _ _ e => e
      cases f with
      | ret v => exact z
      | brk => exact z.elim
      | next => exact ⟨n - (i + 1), by omega, i + 1, rfl, by omega, z⟩
      | cont => exact ⟨n - (i + 1), by omega, i + 1, rfl, by omega, z⟩
    · have : i = n := by omega
      subst this
      refine wpAny_pyNext_range_end hh hit (by omega) fun h' hs => ?_
      have F2 : Fr h₀ L h' m := by
        obtain ⟨oL, es3, ep3, hL, r3⟩ := F'.ns
        exact ⟨⟨oL, es3, ep3, hs _ _ (Ne.symm zI.1) hL, r3⟩, fun b o e => hs _ _ (fun q => by have := zI.2; rw [← q, e] at this; cases this) (F'.keep b o e), F'.above⟩
      exact wpAny_execs_nil (done c m h' tk hp hm F2 fun q hq => by
        have y := N' q (.tail _ hq)
        exact ⟨hs _ _ (hI q hq) y.1, y.2⟩)
  · intro q hq
    rcases List.mem_cons.mp hq with rfl | hq
    · have e0 : a + ((0 : Nat) : Int) = a := by simp
      have e1 : (n : Int) - ((0 : Nat) : Int) = Builtin.Range.rangeSize a b 1 := by rw [hn]; simp
      refine ⟨?_, ?_, ?_⟩
      · show _ = some (rngObj (a + ((0 : Nat) : Int)) (n - ((0 : Nat) : Int)))
        rw [e0, e1]
        exact Heap.get?_push_size _ rfl
      · exact Nat.ne_of_gt F.ns.lt
      · exact next_is_new F
    · exact ⟨Heap.get?_push_of_some _ (N q hq).1, (N q hq).2⟩
end
end Mine
-- Comp
namespace Mine
open PyProof.Rows.LCg
/-- how an iterator goes, over a target -/
structure Itr (prog : Program) (w : World) (A : Around) (target : Expr) (I : Addr) (fp wr : List Addr) (n : Nat) (P Md : Nat → Value → Heap → Prop) (St : Nat → Heap → Prop) : Prop where
  t : KTurns prog w A target I fp wr n P Md St
  self : ∀ (s : Shared) (Q : Value → Shared → Prop) (E : Value → Shared → Prop), St 0 s.heap → Q (.ref I) s → wpAny (model prog w) A (pyIter (.ref I)) Q E s
  own : ∀ i h, St i h → ∃ its : Led, its.map (·.1) = wr ∧ ∀ p ∈ its, h.get? p.1 = some p.2
/-- the end of a comprehension's element -/
noncomputable def CpEnd (h₀ : Heap) (L : Addr) (m : Str → Option Value) (s : Shared) (own : Led) (C : Addr) (oC : Obj) (D : Addr) (oD : Obj) (adr : List Addr) (K : Value → Led → Prop) (y : Value) (s₂ : Shared) : Prop :=
  ∃ h' tk nx, s₂ = { s with heap := h', toks := tk } ∧ Fr h₀ L h' m ∧ News h₀ L h' (own ++ (C, oC) :: (D, oD) :: nx) ∧ nx.map (·.1) = adr ∧ K y nx
theorem CpEnd.intro {h₀ : Heap} {L : Addr} {m : Str → Option Value} {s : Shared} {own : Led} {C : Addr} {oC : Obj} {D : Addr} {oD : Obj} {adr : List Addr} {K : Value → Led → Prop} {y : Value} {h' : Heap} {tk : Nat} {all : Led} (nx : Led)
    (F : Fr h₀ L h' m) (N : News h₀ L h' all) (sub : ∀ p ∈ own ++ (C, oC) :: (D, oD) :: nx, p ∈ all) (ha : nx.map (·.1) = adr) (k : K y nx) : CpEnd h₀ L m s own C oC D oD adr K y { s with heap := h', toks := tk } :=
  ⟨h', tk, nx, rfl, F, fun p hp => N p (sub p hp), ha, k⟩
section
variable {prog : Program} {w : World} {A : Around} {E : Value → Shared → Prop} {s : Shared} {h₀ : Heap} {L : Addr} {m : Str → Option Value} {env : Env}
/-- what a comprehension asks behind its iterable -/
noncomputable def BlockT (prog : Program) (w : World) (A : Around) (h₀ : Heap) (L : Addr) (m : Str → Option Value) (env : Env) (elt target : Expr) (scope : Scope) (cl : List (Str × Addr)) (Fin : Shared → List Value → Led → Prop) (it : Value) (s₂ : Shared) : Prop :=
  ∃ (I : Addr) (fp wr : List Addr) (n : Nat) (P Md : Nat → Value → Heap → Prop) (St : Nat → Heap → Prop) (news : Led) (Bd : Nat → (Str → Option Value) → Prop) (J : Nat → List Value → Led → Prop),
    it = .ref I ∧ Itr prog w A target I fp wr n P Md St ∧ n ≤ sizeLine ∧ Fr h₀ L s₂.heap m ∧ News h₀ L s₂.heap news ∧ St 0 s₂.heap ∧
    (∀ b ∈ wr, @LT.lt Nat _ b s₂.heap.objs.size ∧ h₀.get? b = none ∧ L ≠ b ∧ ∀ p ∈ news, @LT.lt Nat _ p.1 b) ∧
    (∀ b ∈ fp, b ∈ wr ∨ (∃ o, h₀.get? b = some o) ∨ ∃ o, ∀ i ys nx, J i ys nx → (b, o) ∈ nx) ∧
    (∀ i v (s : Shared) C m' (Q : Unit → Shared → Prop) (E : Value → Shared → Prop), i < n → P i v s.heap → s.heap.Ns C m' → (∀ h' tk m'', Bd i m'' → h'.Ns C m'' → (∀ c o, c ≠ C → s.heap.get? c = some o → h'.get? c = some o) → Q () { s with heap := h', toks := tk }) →
      wpAny (model prog w) A (assign target (compEnvC scope cl C env) v) Q E s) ∧
    J 0 [] news ∧
    (∀ i ys nx own C oC D m₂ h tk (E' : Value → Shared → Prop), i < n → J i ys nx → nx.map (·.1) = news.map (·.1) → own.map (·.1) = wr → NsObj oC m₂ → Bd i m₂ → Fr h₀ L h m → News h₀ L h (own ++ (C, oC) :: (D, lst ys) :: nx) →
      (∀ p ∈ own ++ nx, @LT.lt Nat _ p.1 D) → @LT.lt Nat _ D C → (∀ b ∈ wr, ∀ p ∈ nx, @LT.lt Nat _ p.1 b) →
      wpAny (model prog w) A (eval elt (compEnvC scope cl C env)) (CpEnd h₀ L m s₂ own C oC D (lst ys) (news.map (·.1)) (fun y nx' => J (i + 1) (ys ++ [y]) nx')) E' { s₂ with heap := h, toks := tk }) ∧
    ∀ ys nx, J n ys nx → nx.map (·.1) = news.map (·.1) → Fin s₂ ys nx
theorem cp_block {elt iter target : Expr} {scope : Scope} {cl : List (Str × Addr)} {pos : Pos} {s₂ : Shared} {it : Value} {Fin : Shared → List Value → Led → Prop} {RR : Value → Addr → Result → Shared → Prop}
    (hcell : ∀ y ∈ scope.names, y.2 ≠ .cell) (hkind : scope.kind = .function)
    (B : BlockT prog w A h₀ L m env elt target scope cl Fin it s₂)
    (hRR : ∀ D C h tk m' ys nx, Fr h₀ L h m → News h₀ L h ((D, lst ys) :: nx) → Off1 D nx → h.Ns C m' → h₀.get? C = none → C ≠ L → C ≠ D → (∀ p ∈ nx, p.1 ≠ C) → Fin s₂ ys nx → RR (.ref D) C (.ok .next) { s₂ with heap := h, toks := tk }) :
    wpAny (model prog w) A (newList []) (fun acc s₃ => wpAny (model prog w) A (newFunctionEnv scope env.globals cl [] env.qual none .none (some env)) (fun cenv s₄ =>
      codeAny (model prog w) A (.compStart (.ListComp elt [⟨target, iter, [], 0⟩] scope pos) 0 it acc { cenv with scope := relabel scope env }) (RR acc cenv.locals) s₄) E s₃) E s₂ := by
  revert hRR
  revert B
  revert hkind
  revert hcell
  revert prog w A E h₀ L m env elt iter target scope cl pos s₂ it Fin RR
  change ∀ a0 a1 a2 a3 a4 a5 a6 a7 a8 a9 a10 a11 a12 a13 a14 a15 a16 a17, _
  refine eps16 (ne16 (⟨default⟩) ne_world ne_around ne_post ne_heap ne_nat ne_map (⟨default⟩) (⟨default⟩) (⟨default⟩) (⟨default⟩) (⟨default⟩) (⟨default⟩) (⟨default⟩) ne_shared ne_value) ((?_ : ∀ a0 a1 a2 a3 a4 a5 a6 a7 a8 a9 a10 a11 a12 a13 a14 a15, At16 _ a0 a1 a2 a3 a4 a5 a6 a7 a8 a9 a10 a11 a12 a13 a14 a15) _ _ _ _ _ _ _ _ _ _ _ _ _ _ _ _)
  intros prog w A E h₀ L m env elt iter target scope cl pos s₂ it
  refine At16.mk ?_
  refine eps2 (ne2 (⟨default⟩) (⟨default⟩)) ((?_ : ∀ a0 a1, At2 _ a0 a1) _ _)
  intros Fin RR
  refine At2.mk ?_
  intros hcell hkind B hRR
  obtain ⟨I, fp, wr, n, P, Md, St, news, Bd, J, rfl, W, hsz, F, N, hst, hwr, hfp, asg, hJ, turn, done⟩ := B
  refine wpAny_newObj_type (wpAny_newFunctionEnv hcell (by intro y hy; simp at hy) (fun h₁ hns₁ hsb₁ => ?_) hkind)
  dsimp only at hns₁ hsb₁ ⊢
  generalize hH2 : s₂.heap.push { cls := .type "list", dict := none, data := .seq ([] : List Value).toArray } = H2 at hns₁ hsb₁ ⊢
  have hC : H2.objs.size = s₂.heap.objs.size + 1 := by rw [← hH2, Heap.size_push]
  have hDC : @LT.lt Nat _ s₂.heap.objs.size H2.objs.size := by rw [hC]; exact Nat.lt_succ_self _
  generalize hDd : s₂.heap.objs.size = D at *
  generalize hCc : H2.objs.size = C at *
  have below : ∀ b, @LT.lt Nat _ b D → b ≠ C ∧ b ≠ D := fun b hb => ⟨Nat.ne_of_lt (Nat.lt_trans hb hDC), Nat.ne_of_lt hb⟩
  have inold : ∀ {b : Addr} {o : Obj}, s₂.heap.get? b = some o → @LT.lt Nat _ b D := fun e => hDd ▸ Heap.lt_size e
  have old : ∀ b o, s₂.heap.get? b = some o → h₁.get? b = some o := fun b o e => hsb₁.extBut b o (below b (inold e)).1 (Heap.get?_push_of_some _ (hH2 ▸ Heap.get?_push_of_some _ e))
  have hacc : h₁.get? D = some (lst []) := hsb₁.extBut _ _ (Nat.ne_of_lt hDC) (Heap.get?_push_of_some _ (by rw [← hH2, ← hDd]; exact Heap.get?_push_size _ rfl))
  have fresh₀ : ∀ a, @LE.le Nat _ D a → h₀.get? a = none := fun a ha => by
    cases e : h₀.get? a with
    | none => rfl
    | some o' => exact absurd (inold (F.keep a o' e)) (Nat.not_lt.mpr ha)
  have hD₀ : h₀.get? D = none := fresh₀ _ (Nat.le_refl _)
  have hC₀ : h₀.get? C = none := fresh₀ _ (Nat.le_of_lt hDC)
  have hLlt : @LT.lt Nat _ L D := hDd ▸ F.ns.lt
  have hDL : D ≠ L := Ne.symm (below L hLlt).2
  have hCL : C ≠ L := Ne.symm (below L hLlt).1
  have nolt : ∀ p ∈ news, @LT.lt Nat _ p.1 D := fun p hp => inold (N p hp).1
  have nxlt : ∀ {nx : Led}, nx.map (·.1) = news.map (·.1) → (∀ p ∈ nx, @LT.lt Nat _ p.1 D) ∧ ∀ b ∈ wr, ∀ p ∈ nx, @LT.lt Nat _ p.1 b := fun {nx} e => by
    have back : ∀ p ∈ nx, ∃ q ∈ news, q.1 = p.1 := fun p hp => List.mem_map.mp (e ▸ List.mem_map.mpr ⟨p, hp, rfl⟩ : p.1 ∈ news.map (·.1))
    exact ⟨fun p hp => by obtain ⟨q, hq, e⟩ := back p hp; rw [← e]; exact nolt q hq, fun b hb p hp => by obtain ⟨q, hq, e⟩ := back p hp; rw [← e]; exact (hwr b hb).2.2.2 q hq⟩
  have hLw : L ∉ wr := fun h => (hwr L h).2.2.1 rfl
  have hDw : D ∉ wr := fun h => Nat.lt_irrefl D ((hwr D h).1)
  have hCw : C ∉ wr := fun h => Nat.lt_asymm hDC ((hwr C h).1)
  have old0 : ∀ b o, h₀.get? b = some o → b ∉ wr ∧ b ≠ C ∧ b ≠ D := fun b o e => ⟨fun hb => (by rw [(hwr b hb).2.1] at e; cases e), fun q => (by rw [q, hC₀] at e; cases e), fun q => (by rw [q, hD₀] at e; cases e)⟩
  have hst₁ : St 0 h₁ := W.t.frame _ _ _ hst fun b _ o e => old b o e
  have loop : ∀ s₃ : Shared, s₃ = { s₂ with heap := h₁, toks := s₂.toks + ([] : List (Str × Value)).length } →
      codeAny (model prog w) A (.compLoop (.ListComp elt [⟨target, iter, [], 0⟩] scope pos) 0 (.ref I) (.ref D) (compEnvC scope cl C env)) (RR (.ref D) C) s₃ := by
    rintro s₃ rfl
    refine kcp_loop (fun k s' => ∃ h' tk i ys m' nx, s' = { s₂ with heap := h', toks := tk } ∧ i ≤ n ∧ k = n + 1 - i ∧ ys.length = i ∧ St i h' ∧ Fr h₀ L h' m ∧ h'.Ns C m' ∧ News h₀ L h' ((D, lst ys) :: nx) ∧ nx.map (·.1) = news.map (·.1) ∧ J i ys nx) ?_ (n + 1)
      ⟨h₁, _, 0, [], _, news, rfl, Nat.zero_le _, rfl, rfl, hst₁, F.keeps old, hns₁, fun p hp => ?_, rfl, hJ⟩
    · rintro k s' ⟨h', tk, i, ys, m', nx, rfl, hi, rfl, hyl, hst', F', hn', N', hadr, hJ'⟩
      have lts := nxlt hadr
      by_cases hlt : i < n
      · refine W.t.item i _ _ _ hlt hst' fun v h₂ tk₂ hMd hk₂ => ?_
        refine W.t.go i v _ _ _ hMd fun h₃ hP hst₃ hk₃ => ?_
        have up₃ : ∀ c o, c ∉ wr → h'.get? c = some o → h₃.get? c = some o := fun c o hc e => hk₃ c o hc (hk₂ c o hc e)
        refine asg i v _ C m' _ _ hlt hP (hn'.at' fun o e => up₃ _ o hCw e) fun h₄ tk₄ m₄ hB hn₄ hs₄ => ?_
        have up : ∀ c o, c ∉ wr → c ≠ C → h'.get? c = some o → h₄.get? c = some o := fun c o h1 h2 e => hs₄ c o h2 (up₃ c o h1 e)
        have inwr : ∀ b ∈ wr, b ≠ C := fun b hb q => hCw (q ▸ hb)
        obtain ⟨own, how, hown⟩ := W.own _ _ hst₃
        have memw : ∀ p ∈ own, p.1 ∈ wr := fun p hp => how ▸ List.mem_map.mpr ⟨p, hp, rfl⟩
        obtain ⟨oC, heC, hoC⟩ := ns_obj hn₄
        have F₄ : Fr h₀ L h₄ m := ⟨F'.ns.at' fun o e => up _ o hLw (Ne.symm hCL) e, fun c o e => up c o (old0 c o e).1 (old0 c o e).2.1 (F'.keep c o e), F'.above⟩
        have N₄ : News h₀ L h₄ (own ++ (C, oC) :: (D, lst ys) :: nx) := fun q hq => by
          rcases List.mem_append.mp hq with hq | hq
          · have hw := hwr _ (memw q hq)
            exact ⟨hs₄ _ _ (inwr _ (memw q hq)) (hown q hq), Ne.symm hw.2.2.1, hw.2.1⟩
          rcases List.mem_cons.mp hq with rfl | hq
          · exact ⟨heC, hCL, hC₀⟩
          · have z := N' q hq
            refine ⟨up _ _ ?_ ?_ z.1, z.2⟩
            · rcases List.mem_cons.mp hq with rfl | hq
              · exact hDw
              · exact fun hb => Nat.lt_irrefl _ (lts.2 _ hb q hq)
            · rcases List.mem_cons.mp hq with rfl | hq
              · exact Nat.ne_of_lt hDC
              · exact Nat.ne_of_lt (Nat.lt_trans (lts.1 q hq) hDC)
        refine wpAny_mono (turn i ys nx own C oC D m₄ h₄ _ _ hlt hJ' hadr how hoC hB F₄ N₄ (fun p hp => ?_) hDC lts.2) (fun y s₅ h₅ => ?_) fun _ _ e => e
        · rcases List.mem_append.mp hp with hp | hp
          · exact (hwr _ (memw p hp)).1
          · exact lts.1 p hp
        obtain ⟨h₅, tk₅, nx₅, rfl, F₅, N₅, hadr₅, hJ₅⟩ := h₅
        have lt5 := nxlt hadr₅
        have hst₄ : St (i + 1) h₄ := W.t.frame _ _ _ hst₃ fun b hb o e => hs₄ b o (fun q => by
          subst q
          rcases hfp _ hb with hb | ⟨o', e'⟩ | ⟨o', hx⟩
          · exact hCw hb
          · rw [hC₀] at e'; cases e'
          · exact Nat.lt_asymm (lts.1 _ (hx _ _ _ hJ')) hDC) e
        have hst₅ : St (i + 1) h₅ := W.t.frame _ _ _ hst₄ fun b hb o e => by
          rcases hfp _ hb with hb | ⟨o', e'⟩ | ⟨o', hx⟩
          · obtain ⟨p, hp, rfl⟩ := List.mem_map.mp (how ▸ hb : b ∈ own.map (·.1))
            have z1 := (N₄ p (List.mem_append_left _ hp)).1
            rw [e] at z1
            have z2 := (N₅ p (List.mem_append_left _ hp)).1
            rw [z2, z1]
          · have z1 := F₄.keep _ _ e'
            rw [e] at z1
            rw [F₅.keep _ _ e', z1]
          · have z1 := (N₄ (b, o') (List.mem_append_right _ (.tail _ (.tail _ (hx _ _ _ hJ'))))).1
            have z2 := (N₅ (b, o') (List.mem_append_right _ (.tail _ (.tail _ (hx _ _ _ hJ₅))))).1
            dsimp only at z1 z2
            rw [e] at z1
            rw [z2, z1]
        have zC := (N₅ (C, oC) (List.mem_append_right _ (.head _))).1
        have zD := (N₅ (D, lst ys) (List.mem_append_right _ (.tail _ (.head _)))).1
        refine append_at (hsz := by show ys.toArray.size ≤ sizeLine; rw [List.size_toArray, hyl]; exact Nat.le_trans hi hsz) zD fun h₆ hs₆ hD₆ => ?_
        have hst₆ : St (i + 1) h₆ := W.t.frame _ _ _ hst₅ fun b hb o e => hs₆.extBut b o (fun q => by
          subst q
          rcases hfp _ hb with hb | ⟨o', e'⟩ | ⟨o', hx⟩
          · exact hDw hb
          · rw [hD₀] at e'; cases e'
          · exact Nat.lt_irrefl _ (lts.1 _ (hx _ _ _ hJ'))) e
        refine ⟨n + 1 - (i + 1), by omega, h₆, tk₅, i + 1, ys ++ [y], _, nx₅, rfl, hlt, rfl, by rw [List.length_append, List.length_singleton, hyl], hst₆, F₅.change hs₆ hDL hD₀,
          (hoC.ns zC).sameBut hs₆ (Nat.ne_of_gt hDC), fun q hq => ?_, hadr₅, hJ₅⟩
        rcases List.mem_cons.mp hq with rfl | hq
        · exact ⟨hD₆.trans (congrArg some (lst_snoc ys y)), hDL, hD₀⟩
        · exact ⟨hs₆.extBut _ _ (Nat.ne_of_lt (lt5.1 q hq)) (N₅ q (List.mem_append_right _ (.tail _ (.tail _ hq)))).1, (N₅ q (List.mem_append_right _ (.tail _ (.tail _ hq)))).2⟩
      · obtain rfl : i = n := Nat.le_antisymm hi (Nat.not_lt.mp hlt)
        refine W.t.done _ _ _ hst' fun h₂ tk₂ hk₂ => ?_
        refine hRR D C h₂ tk₂ _ ys nx ⟨F'.ns.at' fun o e => hk₂ _ o hLw e, fun c o e => hk₂ c o (old0 c o e).1 (F'.keep c o e), F'.above⟩ (fun p hp => ⟨hk₂ _ _ ?_ (N' p hp).1, (N' p hp).2⟩) ?_ (hn'.at' fun o e => hk₂ _ o hCw e) hC₀ hCL (Nat.ne_of_gt hDC) (fun p hp => Nat.ne_of_lt (Nat.lt_trans (lts.1 p hp) hDC)) (done _ _ hJ' hadr)
        · rcases List.mem_cons.mp hp with rfl | hp
          · exact hDw
          · exact fun hb => Nat.lt_irrefl _ (lts.2 _ hb p hp)
        · have : ∀ l : Led, (∀ p ∈ l, @LT.lt Nat _ p.1 D) → Off1 D l := fun l => by
            induction l with
            | nil => exact fun _ => trivial
            | cons a l ih => exact fun h => ⟨Nat.ne_of_lt (h a (.head _)), ih fun p hp => h p (.tail _ hp)⟩
          exact this nx lts.1
    · rcases List.mem_cons.mp hp with rfl | hp
      · exact ⟨hacc, hDL, hD₀⟩
      · exact ⟨old _ _ (N p hp).1, (N p hp).2⟩
  exact codeAny_compStart_list (loop _ rfl) (W.self _ _ _ hst₁ (loop _ rfl))
/-- a list comprehension by its iterator's walk -/
theorem cp_comp {elt iter target : Expr} {scope : Scope} {cl : List (Str × Addr)} {pos : Pos} {Q : Value → Shared → Prop} (_F₀ : Fr h₀ L s.heap m)
    (hclos : closureFor scope env = pure cl) (hcell : ∀ y ∈ scope.names, y.2 ≠ .cell) (hkind : scope.kind = .function)
    (hnames : ∀ y ∈ scope.names, y.2 = .local → scope.names.lookup y.1 = some .local)
    (h : wpAny (model prog w) A (eval iter env) (fun xv s₁ => wpAny (model prog w) A (pyIter xv) (fun it s₂ => BlockT prog w A h₀ L m env elt target scope cl (fun s₂ => FinE h₀ L m s₂ Q) it s₂) E s₁) E s)
    (hs : ∀ x, foldedSetIterable iter env x = pure x := by intro _; rfl) :
    wpAny (model prog w) A (eval (.ListComp elt [⟨target, iter, [], 0⟩] scope pos) env) Q E s := by
  rw [eval_ListComp]
  refine wpAny_comprehension_free (use := none) rfl hs hclos hkind hnames (wpAny_mono h (fun xv s₁ h₁ => wpAny_mono h₁ (fun it s₂ h₂ => ?_) fun _ _ e => e) fun _ _ e => e)
  refine cp_block hcell hkind h₂ ?_
  intro D C h tk m' ys nx F' N' o1 hn hC₀ hCL hCD offC fin
  refine ⟨m', hn, fun h'' hs'' => fin D h'' tk (F'.change hs'' hCL hC₀) (fun p hp => ?_) o1⟩
  refine ⟨hs''.extBut _ _ ?_ (N' p hp).1, (N' p hp).2⟩
  rcases List.mem_cons.mp hp with rfl | hp
  · exact Ne.symm hCD
  · exact offC p hp
end
end Mine
-- CompE
namespace Mine
open PyProof.Rows.LCg
section
variable {prog : Program} {w : World} {A : Around} {E : Value → Shared → Prop} {s : Shared} {h₀ : Heap} {L : Addr} {m : Str → Option Value} {env : Env}
theorem own_cons {own : Led} {a : Addr} {r : List Addr} (h : own.map (·.1) = a :: r) : ∃ o own', own = (a, o) :: own' ∧ own'.map (·.1) = r := by
  cases own with
  | nil => cases h
  | cons p own' =>
    rw [List.map_cons] at h
    injection h with h1 h2
    subst h1
    exact ⟨p.2, own', rfl, h2⟩
theorem own_nil {own : Led} (h : own.map (·.1) = []) : own = [] := List.map_eq_nil_iff.mp h
theorem own_two {own : Led} {a b : Addr} (h : own.map (·.1) = [a, b]) : ∃ o1 o2, own = [(a, o1), (b, o2)] := by
  obtain ⟨o1, r1, e1, h1⟩ := own_cons h
  obtain ⟨o2, r2, e2, h2⟩ := own_cons h1
  rw [e1, e2, own_nil h2]
  exact ⟨o1, o2, rfl⟩
/-- two names of a block take a pair -/
theorem cp_two {a b : Str} {pa pb tp : Pos} {kk : Nat} {scope : Scope} {cl : List (Str × Addr)} {C T : Addr} {x y : Value} {m' : Str → Option Value} {Q : Unit → Shared → Prop} (hh : A.handled = none) (ht : s.heap.IsTuple T #[x, y])
    (hkind : scope.kind = .function) (ha : scope.names.lookup a = some .local) (hb : scope.names.lookup b = some .local) (hab : a ≠ b) (hn : s.heap.Ns C m')
    (h : ∀ h' tk m'', (m'' a = some x ∧ m'' b = some y) → h'.Ns C m'' → (∀ c o, c ≠ C → s.heap.get? c = some o → h'.get? c = some o) → Q () { s with heap := h', toks := tk }) :
    wpAny (model prog w) A (assign (.Tuple [.Name a pa, .Name b pb] kk tp) (compEnvC scope cl C env) (.ref T)) Q E s :=
  kcp_assign (env := compEnvC scope cl C env) hh ht (lookup_relabel_local ha) (lookup_relabel_local hb) (by simp [compEnvC, relabel, hkind]) hn fun h' tk hn' hs => h h' tk _ ⟨by simp [hab], by simp⟩ hn' hs
/-- a block over enumerate of a list -/
theorem cp_enum {elt : Expr} {a b : Str} {pa pb tp : Pos} {kk : Nat} {scope : Scope} {cl : List (Str × Addr)} {Fin : Shared → List Value → Led → Prop} {l : Addr} {vs : List Value} (J : Nat → List Value → Led → Prop) {news : Led}
    (hh : A.handled = none) (hl : s.heap.IsList l vs.toArray) (hsrc : (∃ o, h₀.get? l = some o) ∨ ∃ o, ∀ i ys nx, J i ys nx → (l, o) ∈ nx) (hsz : vs.length ≤ sizeLine)
    (hkind : scope.kind = .function) (ha : scope.names.lookup a = some .local) (hb : scope.names.lookup b = some .local) (hab : a ≠ b) (F : Fr h₀ L s.heap m) (N : News h₀ L s.heap news) (hJ : J 0 [] news)
    (turn : ∀ (I : Addr) i v t ys nx oE oI C oC D m₂ h tk hp (E' : Value → Shared → Prop), vs[i]? = some v → J i ys nx → nx.map (·.1) = news.map (·.1) → NsObj oC m₂ → m₂ a = some (.int i t) → m₂ b = some v → Fr h₀ L h m →
      News h₀ L h ((I + 1, oE) :: (I, oI) :: (C, oC) :: (D, lst ys) :: nx) → (∀ p ∈ nx, @LT.lt Nat _ p.1 I) → @LT.lt Nat _ (I + 1) D → @LT.lt Nat _ D C →
      wpAny (model prog w) A (eval elt (compEnvC scope cl C env)) (CpEnd h₀ L m { s with heap := hp } [(I + 1, oE), (I, oI)] C oC D (lst ys) (news.map (·.1)) (fun y nx' => J (i + 1) (ys ++ [y]) nx')) E' { s with heap := h, toks := tk })
    (done : ∀ hp ys nx, J vs.length ys nx → nx.map (·.1) = news.map (·.1) → Fin { s with heap := hp } ys nx) :
    wpAny (model prog w) A (call (.type "enumerate") [.ref l]) (fun xv s₁ => wpAny (model prog w) A (pyIter xv) (fun it s₂ => BlockT prog w A h₀ L m env elt (.Tuple [.Name a pa, .Name b pb] kk tp) scope cl Fin it s₂) E s₁) E s := by
  obtain ⟨lo, hlo, hlr⟩ := id hl
  have hlt : @LT.lt Nat _ l s.heap.objs.size := Heap.lt_size hlo
  have hLs : @LT.lt Nat _ L s.heap.objs.size := F.ns.lt
  refine call_enumerate_list hl fun h' hE hI hsz' hk => ?_
  refine wpAny_pyIter_enum hE ?_
  have W := (WalksT.enumerate (prog := prog) (w := w) (A := A) hh (s.heap.objs.size + 1) s.heap.objs.size l (Nat.succ_ne_self _) (Nat.ne_of_lt (Nat.lt_succ_of_lt hlt)) (Nat.ne_of_lt hlt) vs.toArray).toU
  refine ⟨s.heap.objs.size + 1, _, _, _, _, _, _, news, fun i m'' => ∃ t v, vs[i]? = some v ∧ m'' a = some (.int i t) ∧ m'' b = some v, J, rfl, ⟨KTurns.ofWalksU W, fun s Q E => W.self 0 s Q E, ?own⟩, by simpa using hsz, F.keeps hk, N.grown hk, ⟨⟨.none, hE⟩, hI, hl.at fun o e => hk l o e⟩, ?wr, ?fp, ?asg, hJ, ?turn, ?done⟩
  case own =>
    rintro i h ⟨⟨old, he⟩, ⟨oi, hoi, hic, _⟩, _⟩
    have he' : ∃ oe : Obj, h.get? (s.heap.objs.size + 1) = some oe := ⟨_, he⟩
    obtain ⟨oe, h1⟩ := he'
    refine ⟨[(s.heap.objs.size + 1, oe), (s.heap.objs.size, oi)], rfl, fun p hp => ?_⟩
    rcases List.mem_cons.mp hp with rfl | hp
    · exact h1
    · rw [List.mem_singleton.mp hp]; exact hoi
  case wr =>
    intro b hb
    have hb' : b = s.heap.objs.size + 1 ∨ b = s.heap.objs.size := by simpa using hb
    rcases hb' with rfl | rfl
    · exact ⟨by show _ < h'.objs.size; rw [hsz']; exact Nat.lt_succ_self _, ktu_new F (Nat.le_add_right _ _), Nat.ne_of_lt (Nat.lt_succ_of_lt hLs), fun p hp => Nat.lt_succ_of_lt (Heap.lt_size (N p hp).1)⟩
    · exact ⟨by show _ < h'.objs.size; rw [hsz']; exact Nat.lt_add_of_pos_right (by decide), ktu_new F (Nat.le_refl _), Nat.ne_of_lt hLs, fun p hp => Heap.lt_size (N p hp).1⟩
  case fp =>
    intro b hb
    have hb' : b = s.heap.objs.size + 1 ∨ b = s.heap.objs.size ∨ b = l := by simpa using hb
    rcases hb' with rfl | rfl | rfl
    · exact .inl (by simp)
    · exact .inl (by simp)
    · exact .inr hsrc
  case asg =>
    rintro i v s₂ C m' Q' E' hi ⟨T, vals, rfl, ⟨t, x, hx, rfl⟩, hT⟩ hn k
    refine cp_two hh hT hkind ha hb hab hn fun h2 tk2 m2 hm2 hn2 hs2 => k h2 tk2 m2 ⟨t, x, by simpa using hx, hm2.1, hm2.2⟩ hn2 hs2
  case turn =>
    intro i ys nx own C oC D m₂ h tk E' hi hj hadr how hoC hB F' N' l1 l2 l3
    obtain ⟨t, v, hv, h1, h2⟩ := hB
    obtain ⟨o1, o2, rfl⟩ := own_two how
    refine turn s.heap.objs.size i v t ys nx o1 o2 C oC D m₂ h tk h' E' hv hj hadr hoC h1 h2 F' N' (fun p hp => l3 _ ?_ p hp) (l1 (s.heap.objs.size + 1, o1) ?_) l2
    · exact .tail _ (.head _)
    · exact .head _
  case done =>
    intro ys nx hj hadr
    exact done h' ys nx (by simpa using hj) hadr
end
end Mine
-- Fls
namespace Mine
/-- a new list of these ints -/
noncomputable def NewInts (ks : List Int) (v : Value) (h h' : Heap) : Prop := ∃ (l : Addr) (vs : List Value) (ep : Nat), v = .ref l ∧ IntsAre vs ks ∧ h'.get? l = some (W.listOf vs.toArray ep) ∧ h.get? l = none
theorem newInts_of {ks : List Int} {g h h' : Heap} {L l : Addr} {vs : List Value} {ep : Nat} {news : Led} (N : News g L h' news) (hm : (l, W.listOf vs.toArray ep) ∈ news) (k : GSub h g []) (i : IntsAre vs ks) : NewInts ks (.ref l) h h' := by
  refine ⟨l, vs, ep, rfl, i, (N _ hm).1, ?_⟩
  rcases hh : h.get? l with _ | o
  · rfl
  · have := k _ _ hh (by simp)
    rw [(N _ hm).2.2] at this; cases this
theorem ints_at {vs : List Value} {hs : List Int} (h : IntsAre vs hs) {i : Nat} {v : Value} (e : vs[i]? = some v) : ∃ x t, hs[i]? = some x ∧ v = .int x t := by
  have hl := h.length
  have hi : i < hs.length := by
    rcases Nat.lt_or_ge i vs.length with q | q
    · omega
    · rw [List.getElem?_eq_none q] at e; cases e
  obtain ⟨t, ht⟩ := h.get i hs[i] (by simp [hi])
  rw [e] at ht
  exact ⟨hs[i], t, by simp [hi], Option.some.inj ht⟩
theorem cl_falls : ∀ (b : Int) (tb : Tok), Cl 1 284 [.int b tb] [] [] (fun _ => True) (NewInts [-(Int.fmod b 2) + 1 + Int.fmod (Int.fdiv b 2) 2 + 1 + Int.fmod (Int.fdiv b 4) 2, -(Int.fmod b 2) + 1 + Int.fmod (Int.fdiv b 2) 2, -(Int.fmod b 2)]) := by
  refine eps2 (ne2 ne_int ne_nat) ((?_ : ∀ a0 a1, At2 _ a0 a1) _ _)
  intros b tb
  refine At2.mk ?_
  k_with_none
  k_with "kne" => (refine neN ?_; (try dsimp only); first | exact Nat.ne_of_gt (by with_reducible assumption) | exact Nat.ne_of_lt (by with_reducible assumption) | with_reducible assumption | exact Ne.symm (by with_reducible assumption) | exact Nat.succ_ne_self _ | exact Ne.symm (Nat.succ_ne_self _) | (apply Nat.ne_of_gt; apply And.left; k_extra "krn"; done) | (apply Nat.ne_of_lt; apply And.left; k_extra "krn"; done) | (apply Nat.ne_of_gt; k_extra "krn"; done) | (apply Nat.ne_of_lt; k_extra "krn"; done) | k_extra "kd4" | (apply Ne.symm; k_extra "kd4") | omega)
  k_with "kd1" => first | with_reducible assumption | (apply And.left; with_reducible assumption) | (apply And.right; with_reducible assumption)
  k_with "kd2" => first | with_reducible assumption | (apply And.left; k_extra "kd1") | (apply And.right; k_extra "kd1")
  k_with "kd3" => first | with_reducible assumption | (apply And.left; k_extra "kd2") | (apply And.right; k_extra "kd2")
  k_with "kd4" => first | with_reducible assumption | (apply And.left; k_extra "kd3") | (apply And.right; k_extra "kd3")
  k_with "krn" => ((iterate 19 (first | done | with_reducible assumption | apply And.right)); done)
  k_with "omg" => first | exact Mine.room2 (by with_reducible assumption) rfl | exact Mine.units2 (by with_reducible assumption) cLine_is rfl | ((repeat (rename @Ne Nat _ _ => z9w; clear z9w)); (repeat (rename @Ne Nat _ _ ∧ _ => z9w; clear z9w)); (repeat (rename (@Ne Nat _ _ ∧ _) ∧ _ => z9w; clear z9w)); omega +splitDisjunctions)
  w_top off
  unfold Cl
  k_fill
  refine eps23 ne_cx ((?_ : ∀ w p loose mean mg mb dp un gd cn cs a ccd cl outer A₀ base h₀ L m s Q E, At23 _ w p loose mean mg mb dp un gd cn cs a ccd cl outer A₀ base h₀ L m s Q E) _ _ _ _ _ _ _ _ _ _ _ _ _ _ _ _ _ _ _ _ _ _ _)
  intros w p loose mean mg mb dp un gd cn cs a ccd cl outer A₀ base h₀ L m s Q E
  refine At23.mk ?_
  intros B F X T hk N hpre hd hu hret
  k_dflt (refine' code_defG ?k1 ?k2 ?k3 ?k4 ?k5 ?kA ?kF ?kK ?k6 ?k7 ?k8 ?k9 ?kB ?_ ?c2 ?c3 ?c4 ?c5; (case kA => exact rfl); (case kF => exact rfl); (case kK => assumption); (case k1 => k_asm); (case k2 => k_asm); (case k3 => k_asm); (case k4 => k_asm); (case k5 => k_asm); (case k6 => k_is); (case k7 => k_is); (case k8 => ktr_room); (case k9 => first | exact BindsTo.of_eq rfl | exact binds_K (by k_in) rfl (by k_is) rfl rfl rfl); (case c5 => decide); (case kB => exact locs rfl); (case c2 => exact rfl); (case c3 => exact rfl); (case c4 => exact rfl); k_whole; refine eps3 (ne3 ne_heap ne_nat ne_heap) ((?_ : ∀ a b c, At3 _ a b c) _ _ _); intros g' L' h'; refine At3.mk ?_; intros FG' F' N' B' X' T' kG'; (try dsimp only); (try k_fold))
  k_steps
  (rename News g' L' _ _ => N9)
  exact hret _ _ _ (fun b o e hb => Fr.keep (by with_reducible assumption) b o (kG' b o e hb)) (newInts_of (vs := [.int _ _, .int _ _, .int _ _]) N9 (.head _) kG' (.cons _ _ (.cons _ _ (.cons _ _ .nil))))
end Mine
-- Sides
namespace Mine
local macro_rules | `(tactic| k_room) => `(tactic| ktr_room)
noncomputable def heightOf (q n : Int) : Nat := ((List.range 9).find? fun k => decide (Int.fmod n (q ^ (k + 1)) ≠ 0)).getD 9
theorem height_ok {q n : Int} (hq : 2 ≤ q ∧ q ≤ 5) (h9 : Int.fmod n (q ^ 9) ≠ 0) : heightOf q n ≤ 8 ∧ ∀ k : Nat, k ≤ 8 → (Int.fmod n (q ^ (k + 1)) = 0 ↔ k + 1 ≤ heightOf q n) := by
  unfold heightOf
  cases e : (List.range 9).find? fun k => decide (Int.fmod n (q ^ (k + 1)) ≠ 0) with
  | none =>
    rw [List.find?_eq_none] at e
    exact absurd (by simpa using e 8 (by simp)) h9
  | some i =>
    rw [List.find?_range_eq_some] at e
    obtain ⟨e1, e2, e3⟩ := e
    have e1 : Int.fmod n (q ^ (i + 1)) ≠ 0 := by simpa using e1
    have e2 : i < 9 := by simpa using e2
    refine ⟨by show i ≤ 8; omega, fun k hk => ?_⟩
    show _ ↔ k + 1 ≤ i
    constructor
    · intro h0
      refine Classical.byContradiction fun q1 => e1 ?_
      refine Int.fmod_eq_zero_of_dvd (Int.dvd_trans ?_ (Int.dvd_of_fmod_eq_zero h0))
      exact ⟨q ^ (k - i), by rw [← Int.pow_add]; congr 1; omega⟩
    · intro h0
      have := e3 k (by omega)
      simpa using this
theorem height_of {q n : Int} {H : Nat} (hH : H ≤ 8) (h : ∀ k : Nat, k ≤ 8 → (Int.fmod n (q ^ (k + 1)) = 0 ↔ k + 1 ≤ H)) : heightOf q n = H := by
  have e : (List.range 9).find? (fun k => decide (Int.fmod n (q ^ (k + 1)) ≠ 0)) = some H := by
    rw [List.find?_range_eq_some]
    refine ⟨by simpa using fun e => absurd ((h H hH).mp e) (by omega), by simp; omega, fun j hj => ?_⟩
    have := (h j (by omega)).mpr (by omega)
    simpa using this
  unfold heightOf
  rw [e]; rfl
noncomputable def AllTall (q : Int) (l : List Int) : Prop := ∀ n ∈ l, Int.fmod n (q ^ 9) ≠ 0
theorem tall_of {q n : Int} {l : List Int} (h : AllTall q l) (m : n ∈ l) : Int.fmod n (q ^ 9) ≠ 0 := h n m
theorem cl_tall (n q : Int) (tn tq : Tok) (hq : 2 ≤ q ∧ q ≤ 5) (h9 : Int.fmod n (q ^ 9) ≠ 0) : Cl 2 322 [.int n tn, .int q tq] [] [] (fun _ => True) (IntIs (heightOf q n : Int)) :=
  cl_height n q (heightOf q n) tn tq (height_ok hq h9).1 hq (height_ok hq h9).2
theorem ints_four {vs : List Value} {a b c d : Int} (h : IntsAre vs [a, b, c, d]) : ∃ t0 t1 t2 t3, vs = [.int a t0, .int b t1, .int c t2, .int d t3] := by
  cases h with
  | cons _ t0 h => cases h with
    | cons _ t1 h => cases h with
      | cons _ t2 h => cases h with
        | cons _ t3 h => cases h; exact ⟨t0, t1, t2, t3, rfl⟩
local macro_rules | `(tactic| k_room) => `(tactic| ktr_room)
structure RngMark : Prop where
  h : True
structure SdS where
  oN : Obj
  vs : List Value
  ep : Nat
  tl : Led
noncomputable def GtL (I : Addr) (tl : Led) : Prop := ∀ q ∈ tl, @LT.lt Nat _ I q.1
theorem gtL_off {I d : Addr} {tl : Led} (h : GtL I tl) (l : @LE.le Nat _ d I) : ∀ p ∈ tl, p.1 ≠ d := fun p hp => Nat.ne_of_gt (Nat.lt_of_le_of_lt l (h p hp))
theorem ltL_off {b d : Addr} : ∀ {tl : Led}, AllLt b tl → @LE.le Nat _ b d → ∀ p ∈ tl, p.1 ≠ d
  | [], _, _, _, hp => nomatch hp
  | q :: r, h, l, p, hp => by
    rcases List.mem_cons.mp hp with rfl | hp
    · exact Nat.ne_of_lt (Nat.lt_of_lt_of_le h.1 l)
    · exact ltL_off h.2 l p hp
local macro_rules | `(tactic| k_all) => `(tactic| first | exact gtL_off (by assumption) (by omega) | exact ltL_off (by assumption) (by omega))
inductive Hdrs : List (List Nat × List Nat) → List Value → Led → Prop
  | nil : Hdrs [] [] []
  | snoc {ns : List (List Nat × List Nat)} {vs : List Value} {tl : Led} (x y : List Nat) (tx ty : Tok) (T : Addr) (o : Obj) : Hdrs ns vs tl → Hdrs (ns ++ [(x, y)]) (vs ++ [.ref T]) ((T, o) :: tl)
noncomputable abbrev hdrDict (hh : Int) (hk : Tok) (hl : Addr) : Obj := dictOf [⟨hh, .str (Str.ofString "_headers") hk, .ref hl⟩] 1
/-- the parts that the loop of _law_sides has in hand -/
noncomputable abbrev sdLed (rv L hl hx hdx D : Addr) (hh : Int) (hk : Tok) (ys : List Value) (oN oP oR : Obj) (vs : List Value) (ep : Nat) (tl : Led) : Led :=
  (hl, W.listOf vs.toArray ep) :: (hx, instObj 268 hdx) :: (hdx, hdrDict hh hk hl) :: (D, LCg.lst ys) :: (L + 1 + 1, oN) :: (L + 1, oP) :: (rv, oR) :: tl
/-- one sign, so many times -/
theorem mul_rep (c n : Nat) : ∀ acc : Array Nat, (List.replicate n (#[c] : Array Nat)).foldl (· ++ ·) acc = acc ++ (List.replicate n c).toArray := by
  induction n with
  | zero => intro acc; simp
  | succ n ih =>
    intro acc
    rw [List.replicate_succ, List.foldl_cons, ih, List.replicate_succ]
    apply Array.ext'
    simp
theorem mul_text (c n : Nat) : Txt.mul ⟨#[c]⟩ (n : Int) = ⟨(List.replicate n c).toArray⟩ := by
  unfold Txt.mul
  by_cases h0 : (n : Int) < 1
  · have : n = 0 := by omega
    subst this
    rfl
  · rw [if_neg h0]
    by_cases h1 : n = 1
    · subst h1; rfl
    · have : ((n : Int) == 1 || (⟨#[c]⟩ : Str).length == 0) = false := by
        have : ((n : Int) == 1) = false := by simpa using (by omega : ¬ (n : Int) = 1)
        rw [this]; rfl
      rw [this]
      simp only [Bool.false_eq_true, if_false, Int.toNat_natCast]
      congr 1
      rw [mul_rep]
      simp
theorem mul_A {prog : Program} {w : World} {A : Around} {E : Value → Shared → Prop} {s : Shared} {t u : Tok} {k : Int} {n : Nat} {Q : Value → Shared → Prop} (hk : k = (n : Int)) (hn : n ≤ 1000) (h : ∀ t' tk, Q (.str ⟨(List.replicate n 65).toArray⟩ t') { s with toks := tk }) :
    wpAny (model prog w) A (binaryOp .Mult (.str (Str.ofString "A") t) (.int k u)) Q E s := by
  subst hk
  have e : Str.ofString "A" = ⟨#[65]⟩ := by decide
  refine SB.mul (mulOk_of 16 1048576 (by first | decide | (rw [e]; decide)) (by omega) (by omega) (by decide) (by decide)) ?_
  intro t' k'
  rw [e, mul_text]
  exact h _ _
noncomputable def digs (k : Nat) : List Int := if k = 0 then [] else [(k : Int)]
theorem digs_val (k : Nat) : valD (digs k) = k := by
  unfold digs
  split
  · subst_vars; rfl
  · simp [valD]
theorem digs_ok {k : Nat} (h : k ≤ 15) : FigsOk (digs k) := by
  intro d hd
  unfold digs at hd
  split at hd
  · cases hd
  · simp only [List.mem_cons, List.not_mem_nil, or_false] at hd; omega
theorem digs_head (k : Nat) : ∀ d r, digs k = d :: r → d ≠ 0 := by
  intro d r e
  unfold digs at e
  split at e
  · cases e
  · injection e with e1 _; omega
theorem digs_len (k : Nat) : (digs k).length ≤ 12 := by
  unfold digs
  split <;> simp
noncomputable abbrev digT (k : Nat) : List Nat := (digs k).map fun d => 65 + d.toNat
theorem digT_len (k : Nat) : (lett (digs k)).length ≤ 1000 := by
  have := digs_len k
  show (lett (digs k)).cps.size ≤ 1000
  unfold lett
  simp only [List.size_toArray, List.length_map]
  omega
theorem join_one {prog : Program} {w : World} {A : Around} {E : Value → Shared → Prop} {s : Shared} {sep y : Str} {t u : Tok} {D : Addr} {Q : Value → Shared → Prop} (hl : s.heap.IsList D [Value.str y u].toArray) (hy : y.length ≤ 1000) (hs : sep.length ≤ 16)
    (h : ∀ t' k, Q (.str y t') { s with toks := k }) : wpAny (model prog w) A (call (.builtin "str.join") [.str sep t, .ref D]) Q E s :=
  SC.join (l := [(y, u)]) (texts := [y]) hl rfl (joinOk_of_weight (by simp only [List.map_cons, List.map_nil, List.sum_cons, List.sum_nil, List.length_cons, List.length_nil]; omega) hs) h
theorem digT_ok {k : Nat} (h : k ≤ 15) : digT k ∈ okTexts := by
  have all : ∀ n : Fin 16, digT n.val ∈ okTexts := by decide
  exact all ⟨k, by omega⟩
theorem repA_ok {k : Nat} (h : k < 6) : List.replicate k 65 ∈ okTexts := by
  have all : ∀ n : Fin 6, List.replicate n.val 65 ∈ okTexts := by decide
  exact all ⟨k, h⟩
/-- the least height of the four terms at an x with N noughts -/
noncomputable def loAt (h0 h1 h2 h3 N : Nat) : Nat := min h0 (min (h1 + N) (min (h2 + 2 * N) (h3 + 3 * N)))
theorem cst9 {a k i : Nat} : (a : Int) + (k : Nat) * (0 + (i : Int)) = ((a + k * i : Nat) : Int) := by rw [Int.zero_add, Int.natCast_add, Int.natCast_mul]
theorem min4 {A B C D m : Nat} (h : m = A ∨ m = B ∨ m = C ∨ m = D) (l : m ≤ A ∧ m ≤ B ∧ m ≤ C ∧ m ≤ D) : m = min A (min B (min C D)) := by
  have u : m ≤ min A (min B (min C D)) := Nat.le_min.mpr ⟨l.1, Nat.le_min.mpr ⟨l.2.1, Nat.le_min.mpr l.2.2⟩⟩
  have v1 := Nat.min_le_left A (min B (min C D))
  have v2 := Nat.min_le_right A (min B (min C D))
  have v3 := Nat.le_trans v2 (Nat.min_le_right B (min C D))
  rcases h with h | h | h | h
  · exact Nat.le_antisymm u (Nat.le_trans v1 (Nat.le_of_eq h.symm))
  · exact Nat.le_antisymm u (Nat.le_trans (Nat.le_trans v2 (Nat.min_le_left ..)) (Nat.le_of_eq h.symm))
  · exact Nat.le_antisymm u (Nat.le_trans (Nat.le_trans v3 (Nat.min_le_left ..)) (Nat.le_of_eq h.symm))
  · exact Nat.le_antisymm u (Nat.le_trans (Nat.le_trans v3 (Nat.min_le_right ..)) (Nat.le_of_eq h.symm))
theorem least_is {M : Int} {a b c d i : Nat} (h : M = (a : Int) + (0 : Nat) * (0 + (i : Int)) ∨ M = (b : Int) + (1 : Nat) * (0 + (i : Int)) ∨ M = (c : Int) + (2 : Nat) * (0 + (i : Int)) ∨ M = (d : Int) + (3 : Nat) * (0 + (i : Int)))
    (h2 : M ≤ (a : Int) + (0 : Nat) * (0 + (i : Int)) ∧ M ≤ (b : Int) + (1 : Nat) * (0 + (i : Int)) ∧ M ≤ (c : Int) + (2 : Nat) * (0 + (i : Int)) ∧ M ≤ (d : Int) + (3 : Nat) * (0 + (i : Int))) : M = valD (digs (loAt a b c d i)) := by
  rw [digs_val]
  rw [cst9, cst9, cst9, cst9] at h h2
  obtain ⟨m, hm⟩ : ∃ m : Nat, M = m := by rcases h with h | h | h | h <;> exact ⟨_, h⟩
  subst hm
  have e := min4 (h.imp Int.ofNat.inj (Or.imp Int.ofNat.inj (Or.imp Int.ofNat.inj Int.ofNat.inj))) ⟨Int.ofNat_le.mp h2.1, Int.ofNat_le.mp h2.2.1, Int.ofNat_le.mp h2.2.2.1, Int.ofNat_le.mp h2.2.2.2⟩
  rw [Nat.zero_mul, Nat.add_zero, Nat.one_mul] at e
  exact congrArg _ e
theorem news_last {h₀ h : Heap} {L : Addr} {t a b c d e f k r : Addr × Obj} {tl : Led} (N : News h₀ L h (t :: a :: b :: c :: d :: e :: f :: k :: r :: tl)) : News h₀ L h (a :: b :: c :: d :: e :: f :: k :: r :: t :: tl) := fun p hp => N p (by
  simp only [List.mem_cons] at hp ⊢
  rcases hp with hp | hp | hp | hp | hp | hp | hp | hp | hp | hp
  all_goals simp only [hp, true_or, or_true])
noncomputable abbrev hdrTup (x y : Str) (tx ty : Tok) : Obj := { cls := .type "tuple", data := .seq #[.str x tx, .str y ty] }
/-- the headers' tuples: so many A, the least height told in letters -/
noncomputable def HdrOk (lo : Nat → Nat) (vs : List Value) (tl : Led) : Prop := ∀ (j : Nat) v, vs[j]? = some v → ∃ T tx ty, v = .ref T ∧ (T, hdrTup ⟨(List.replicate j 65).toArray⟩ (lett (digs (lo j))) tx ty) ∈ tl
theorem HdrOk.snoc {lo : Nat → Nat} {vs : List Value} {tl : Led} {T : Addr} {tx ty : Tok} (h : HdrOk lo vs tl) {o : Obj} (ho : o = hdrTup ⟨(List.replicate vs.length 65).toArray⟩ (lett (digs (lo vs.length))) tx ty) : HdrOk lo (vs ++ [.ref T]) ((T, o) :: tl) := by
  subst ho
  intro j v e
  rcases Nat.lt_trichotomy j vs.length with q | q | q
  · rw [List.getElem?_append_left q] at e
    obtain ⟨T', tx', ty', e1, e2⟩ := h j v e
    exact ⟨T', tx', ty', e1, .tail _ e2⟩
  · subst q
    rw [List.getElem?_append_right (Nat.le_refl _), Nat.sub_self] at e
    simp only [List.getElem?_cons_zero, Option.some.injEq] at e
    exact ⟨T, tx, ty, e.symm, .head _⟩
  · rw [List.getElem?_eq_none (by simp; omega)] at e
    cases e
noncomputable abbrev hdrLed (hx hdx hl : Addr) (hh : Int) (hk : Tok) (vs : List Value) (ep : Nat) (tl : Led) : Led := (hl, W.listOf vs.toArray ep) :: (hx, instObj 268 hdx) :: (hdx, hdrDict hh hk hl) :: tl
/-- what _law_sides hands on: headers all of whose parts are new -/
noncomputable def SidesNew (lo : Nat → Nat) (dep : Nat) (v : Value) (h h' : Heap) : Prop :=
  ∃ (hx hdx hl : Addr) (hh : Int) (hk : Tok) (vs : List Value) (ep : Nat) (tl : Led), v = .ref hx ∧ vs.length = dep ∧ HdrOk lo vs tl ∧ (∀ q ∈ hdrLed hx hdx hl hh hk vs ep tl, h'.get? q.1 = some q.2 ∧ h.get? q.1 = none) ∧ (@LT.lt Nat _ hdx hx ∧ @LT.lt Nat _ hx hl) ∧ GtL hl tl
theorem sidesNew_of {lo : Nat → Nat} {g h h' : Heap} {L hx hdx hl rv : Addr} {hh : Int} {hk : Tok} {vs : List Value} {ep : Nat} {tl : Led} (N : News g L h' (hdrLed hx hdx hl hh hk vs ep tl)) (k : GSub h g [rv]) (hv : HdrOk lo vs tl) (o : @LT.lt Nat _ rv hdx ∧ @LT.lt Nat _ hdx hx ∧ @LT.lt Nat _ hx hl) (gt : GtL hl tl) :
    SidesNew lo vs.length (.ref hx) h h' := by
  refine ⟨hx, hdx, hl, hh, hk, vs, ep, tl, rfl, rfl, hv, fun q hq => ⟨(N q hq).1, ?_⟩, o.2, gt⟩
  have hne : @LT.lt Nat _ rv q.1 := by
    simp only [hdrLed, List.mem_cons] at hq
    rcases hq with rfl | rfl | rfl | hq
    · exact Nat.lt_trans o.1 (Nat.lt_trans o.2.1 o.2.2)
    · exact Nat.lt_trans o.1 o.2.1
    · exact o.1
    · exact Nat.lt_trans (Nat.lt_trans o.1 (Nat.lt_trans o.2.1 o.2.2)) (gt q hq)
  rcases hh : h.get? q.1 with _ | ob
  · rfl
  · have := k _ _ hh (by simpa using Nat.ne_of_gt hne)
    rw [(N q hq).2.2] at this; cases this
theorem sd_end {C : Prop} {g h : Heap} {L T I hl hx hdx D c2 c1 rv : Addr} {o io x1 x2 x3 x4 oN oP oR : Obj} {tl : Led} {vs : List Value} {ep : Nat} {X Y : Str} {tx ty : Tok} {v9 : Option Value}
    (N : News g L h ((T, o) :: (I, io) :: (hl, x1) :: (hx, x2) :: (hdx, x3) :: (D, x4) :: (c2, oN) :: (c1, oP) :: (rv, oR) :: tl)) (e1 : x1 = W.listOf (vs ++ [Value.ref T]).toArray ep) (lt : @LT.lt Nat _ hl T) (li : @LT.lt Nat _ I T) (ho : o = hdrTup X Y tx ty) (hN : oN.data = .cell v9)
    (k : ∀ (T : Addr) (oN : Obj) (tx ty : Tok), @LT.lt Nat _ hl T → @LT.lt Nat _ I T → (∃ x, oN.data = .cell x) → News g L h ((I, io) :: (hl, W.listOf (vs ++ [Value.ref T]).toArray ep) :: (hx, x2) :: (hdx, x3) :: (D, x4) :: (c2, oN) :: (c1, oP) :: (rv, oR) :: (T, hdrTup X Y tx ty) :: tl) → C) : C := by
  subst e1 ho
  exact k T oN tx ty lt li ⟨_, hN⟩ (news_last N)
theorem sd_again {C : Prop} {g h : Heap} {m : Str → Option Value} {L hl hx hdx D rv : Addr} {hh : Int} {hk : Tok} {ys : List Value} {oN oP oR x1 : Obj} {q : Int} {tq : Tok} (N : News g L h [(hl, x1), (hx, instObj 268 hdx), (hdx, hdrDict hh hk hl), (D, LCg.lst ys), (L + 1 + 1, oN), (L + 1, oP), (rv, oR)])
    (F : Fr g L h m) (e1 : x1 = W.listOf ([] : List Value).toArray 0) (m1 : m (Str.ofString "sides") = some (.ref hx)) (m2 : m (Str.ofString "heights") = some (.ref D)) (d1 : ∃ x, oN.data = .cell x) (d2 : oP.data = .cell (some (.int q tq)))
    (o1 : @LT.lt Nat _ rv L ∧ @LT.lt Nat _ (L + 1 + 1) hdx ∧ @LT.lt Nat _ D hdx ∧ @LT.lt Nat _ hdx hx ∧ @LT.lt Nat _ hx hl ∧ @Ne Nat (L + 1 + 1) D ∧ @Ne Nat (L + 1) D ∧ @Ne Nat rv D)
    (k : ∀ (hl hx hdx D : Addr) (hh : Int) (hk : Tok) (m : Str → Option Value) (oN oP : Obj), Fr g L h m → News g L h (sdLed rv L hl hx hdx D hh hk ys oN oP oR [] 0 []) → m (Str.ofString "sides") = some (.ref hx) → m (Str.ofString "heights") = some (.ref D) → (∃ x, oN.data = .cell x) → oP.data = .cell (some (.int q tq)) →
      (@LT.lt Nat _ rv L ∧ @LT.lt Nat _ (L + 1 + 1) hdx ∧ @LT.lt Nat _ D hdx ∧ @LT.lt Nat _ hdx hx ∧ @LT.lt Nat _ hx hl ∧ @Ne Nat (L + 1 + 1) D ∧ @Ne Nat (L + 1) D ∧ @Ne Nat rv D) → C) : C := by
  subst e1
  exact k hl hx hdx D hh hk m oN oP F N m1 m2 d1 d2 o1
theorem gtL_cons {I T : Addr} {o : Obj} {tl : Led} (h : GtL I tl) (l : @LT.lt Nat _ I T) : GtL I ((T, o) :: tl) := fun p hp => by
  rcases List.mem_cons.mp hp with rfl | hp
  · exact l
  · exact h p hp
theorem news_skip {h₀ h : Heap} {L : Addr} {a x : Addr × Obj} {r : Led} (N : News h₀ L h (a :: x :: r)) : News h₀ L h (a :: r) := fun p hp => N p (by
  rcases List.mem_cons.mp hp with rfl | hp
  · exact .head _
  · exact .tail _ (.tail _ hp))

/-- the heights of the terms at an x with so many noughts -/
noncomputable def termsAt (hs : List Int) (N : Int) : List Int := hs.zipIdx.map fun p => p.1 + p.2 * N
theorem terms_snoc {hs : List Int} {N x : Int} {i : Nat} (e : hs[i]? = some x) : (termsAt hs N).take (i + 1) = (termsAt hs N).take i ++ [x + i * N] := by
  have : (termsAt hs N)[i]? = some (x + i * N) := by
    unfold termsAt
    simp [e]
  rw [List.take_add_one, this]; rfl
theorem cl_sides : ∀ (r0 r1 r2 r3 : Int) (rv : Addr) (tq td t0 t1 t2 t3 : Tok) (q : Int) (dep : Nat) (ep : Nat) (hd6 : dep ≤ 6) (hq5 : 2 ≤ q ∧ q ≤ 5) (hz9 : AllTall q [r0, r1, r2, r3]) (hlo : ∀ N, N < dep → loAt (heightOf q r0) (heightOf q r1) (heightOf q r2) (heightOf q r3) N ≤ 15), Cl 4 327 [.ref rv, .int q tq, .int dep td] [] [(rv, W.listOf [.int r0 t0, .int r1 t1, .int r2 t2, .int r3 t3].toArray ep)] (fun _ => True) (fun v h h' => SidesNew (loAt (heightOf q r0) (heightOf q r1) (heightOf q r2) (heightOf q r3)) dep v h h' ∧ h'.get? rv = some (W.listOf [.int r0 t0, .int r1 t1, .int r2 t2, .int r3 t3].toArray ep)) := by
  refine eps8 (ne8 ne_int ne_int ne_int ne_int ne_nat ne_nat ne_nat ne_nat) ((?_ : ∀ a0 a1 a2 a3 a4 a5 a6 a7, At8 _ a0 a1 a2 a3 a4 a5 a6 a7) _ _ _ _ _ _ _ _)
  intros r0 r1 r2 r3 rv tq td t0
  refine At8.mk ?_
  refine eps4 (ne4 ne_nat ne_nat ne_nat ne_int) ((?_ : ∀ a0 a1 a2 a3, At4 _ a0 a1 a2 a3) _ _ _ _)
  intros t1 t2 t3 q
  refine At4.mk ?_
  refine eps2 (ne2 ne_nat ne_nat) ((?_ : ∀ a0 a1, At2 _ a0 a1) _ _)
  intros dep ep
  refine At2.mk ?_
  intros hd6
  intros hq5
  intros hz9
  intros hlo
  k_with_none
  k_with "kne" => (refine neN ?_; (try dsimp only); first | exact Nat.ne_of_gt (by with_reducible assumption) | exact Nat.ne_of_lt (by with_reducible assumption) | with_reducible assumption | exact Ne.symm (by with_reducible assumption) | exact Nat.succ_ne_self _ | exact Ne.symm (Nat.succ_ne_self _) | (apply Nat.ne_of_gt; apply And.left; k_extra "krn"; done) | (apply Nat.ne_of_lt; apply And.left; k_extra "krn"; done) | (apply Nat.ne_of_gt; k_extra "krn"; done) | (apply Nat.ne_of_lt; k_extra "krn"; done) | k_extra "kd4" | (apply Ne.symm; k_extra "kd4") | omega)
  k_with "kd1" => first | with_reducible assumption | (apply And.left; with_reducible assumption) | (apply And.right; with_reducible assumption)
  k_with "kd2" => first | with_reducible assumption | (apply And.left; k_extra "kd1") | (apply And.right; k_extra "kd1")
  k_with "kd3" => first | with_reducible assumption | (apply And.left; k_extra "kd2") | (apply And.right; k_extra "kd2")
  k_with "kd4" => first | with_reducible assumption | (apply And.left; k_extra "kd3") | (apply And.right; k_extra "kd3")
  k_with "krn" => ((iterate 19 (first | done | with_reducible assumption | apply And.right)); done)
  k_with "omg" => first | exact Mine.room2 (by with_reducible assumption) rfl | exact Mine.units2 (by with_reducible assumption) cLine_is rfl | ((repeat (rename @Ne Nat _ _ => z9w; clear z9w)); (repeat (rename @Ne Nat _ _ ∧ _ => z9w; clear z9w)); (repeat (rename (@Ne Nat _ _ ∧ _) ∧ _ => z9w; clear z9w)); omega +splitDisjunctions)
  k_with "call ref" => ((with_reducible show wpAny _ _ (PySem.call (Value.ref 322) [Value.int _ _, Value.int _ _] []) _ _ _); k_dflt (refine' cl_pure (cl_tall _ _ _ _ (by assumption) (tall_of (by assumption) (by assumption))) ?k1 ?k2 ?k3 ?k4 ?k5 ?k6 ?kp ?kd ?ku ?_; (case k1 => k_asm); (case k2 => k_asm); (case k3 => k_asm); (case k4 => k_asm); (case k5 => first | exact rfl | assumption); (case k6 => k_asm); (case kp => trivial); (case kd => ktr_room); (case ku => ktr_units); intro v9w h9w tk9w F9w N9w hp9w; (obtain ⟨t9w, hp9w⟩ := hp9w; subst hp9w); (try dsimp only); (try k_fold)); walk_say "CONTRACT")
  k_with "exec For" => (k_here; (with_reducible show wpAny _ _ (exec (Stmt.For (Expr.Name _ _) (Expr.Call _ _ _ _) _ [] _) _) _ _ _); refine wpAny_For ?_ (fun _ => rfl))
  k_with "pyIter ref" => ((with_reducible show wpAny _ _ (pyIter (Value.ref _)) (fun _ _ => codeAny _ _ (PySem.Code.forLoop (Expr.Name _ _) _ _ _ _) _ _) _ _); refine Hold.of ?_; walk_say "BREAK")
  k_with "binaryOp Mult str int" => (k_here; (with_reducible show wpAny _ _ (binaryOp _ (Value.str (Str.ofString "A") _) (Value.int _ _)) _ _ _); k_dflt (refine' mul_A ?hk ?hn ?_; (case hk => first | exact Int.zero_add _ | exact rfl); (case hn => omega)); intro _ _)
  k_with "call builtin:str.join" => (k_here; k_dflt (refine' join_one ?hl ?hy ?hs ?_; (case hl => exact isList_led (by k_asm) (by k_mem)); (case hy => exact digT_len _); (case hs => decide)); intro _ _)
  k_with "call builtin:list.append" => ((with_reducible show wpAny _ _ (PySem.call (Value.builtin "list.append") [Value.ref _, Value.ref _]) _ _ _); refine Hold.of ?_; walk_say "BREAK")
  k_with "call builtin:bytes.decode" => (k_here; k_dflt (refine' decode_ap ?ok ?hs ?_; (case ok => exact digs_ok (by assumption)); (case hs => exact digs_len _)); intro _ _)
  k_with "call ref" => ((with_reducible show wpAny _ _ (PySem.call (Value.ref 167) [Value.ref _, Value.str _ _] _) _ _ _); k_dflt (refine' cl_pure (cl_conv _ _ _ (by assumption) _) ?k1 ?k2 ?k3 ?k4 ?k5 ?k6 ?kp ?kd ?ku ?_; (case k1 => k_asm); (case k2 => k_asm); (case k3 => k_asm); (case k4 => k_asm); (case k5 => first | exact rfl | assumption); (case k6 => k_asm); (case kp => trivial); (case kd => ktr_room); (case ku => ktr_units); intro v9w h9w tk9w F9w N9w hp9w; (subst hp9w); (try dsimp only); (try k_fold)); walk_say "CONTRACT")
  k_with "eval ListComp" => ((with_reducible show wpAny _ _ (eval (Expr.ListComp _ _ _ _) _) _ _ _); refine Hold.of ?_; walk_say "BREAK")
  k_with "call ref" => ((with_reducible show wpAny _ _ (PySem.call (Value.ref 80) [Value.int _ _] []) _ _ _); refine Hold.of ?_; walk_say "BREAK")
  k_with "call type:enumerate" => ((with_reducible show wpAny _ _ (PySem.call (Value.type "enumerate") [Value.ref _] []) _ _ _); refine Hold.of ?_; walk_say "BREAK")
  k_with "call ref" => ((with_reducible show wpAny _ _ (PySem.call (Value.ref 52) [Value.int _ _, Value.int _ _] []) _ _ _); k_dflt (refine' cl_pure (cl_add _ _ _ _) ?k1 ?k2 ?k3 ?k4 ?k5 ?k6 ?kp ?kd ?ku ?_; (case k1 => k_asm); (case k2 => k_asm); (case k3 => k_asm); (case k4 => k_asm); (case k5 => first | exact rfl | assumption); (case k6 => k_asm); (case kp => trivial); (case kd => ktr_room); (case ku => ktr_units); intro v9w h9w tk9w F9w N9w hp9w; (obtain ⟨t9w, hp9w⟩ := hp9w; subst hp9w); (try dsimp only); (try k_fold)); walk_say "CONTRACT")
  k_with "call ref" => ((with_reducible show wpAny _ _ (PySem.call (Value.ref 66) [Value.int _ _, Value.int _ _] []) _ _ _); k_dflt (refine' cl_pure (cl_mul _ _ _ _ (by constructor <;> omega)) ?k1 ?k2 ?k3 ?k4 ?k5 ?k6 ?kp ?kd ?ku ?_; (case k1 => k_asm); (case k2 => k_asm); (case k3 => k_asm); (case k4 => k_asm); (case k5 => first | exact rfl | assumption); (case k6 => k_asm); (case kp => trivial); (case kd => ktr_room); (case ku => ktr_units); intro v9w h9w tk9w F9w N9w hp9w; (obtain ⟨t9w, hp9w⟩ := hp9w; subst hp9w); (try dsimp only); (try k_fold)); walk_say "CONTRACT")
  w_top off
  unfold Cl
  k_fill
  refine eps23 ne_cx ((?_ : ∀ w p loose mean mg mb dp un gd cn cs a ccd cl outer A₀ base h₀ L m s Q E, At23 _ w p loose mean mg mb dp un gd cn cs a ccd cl outer A₀ base h₀ L m s Q E) _ _ _ _ _ _ _ _ _ _ _ _ _ _ _ _ _ _ _ _ _ _ _)
  intros w p loose mean mg mb dp un gd cn cs a ccd cl outer A₀ base h₀ L m s Q E
  refine At23.mk ?_
  intros B F X T hk N hpre hd hu hret
  k_dflt (refine' enter_cells ?k1 ?k2 ?k3 ?k4 ?k5 ?kA ?kF ?kK ?k6 ?k7 ?k8 ?k9 ?kB ?kD ?_ ?c2 ?c3 ?c4; (case kA => exact rfl); (case kF => exact rfl); (case kK => assumption); (case k1 => k_asm); (case k2 => k_asm); (case k3 => k_asm); (case k4 => k_asm); (case k5 => k_asm); (case k6 => k_is); (case k7 => k_is); (case k8 => ktr_room); (case k9 => first | exact BindsTo.of_eq rfl | exact binds_K (by k_in) rfl (by k_is) rfl rfl rfl); (case kB => exact rfl); (case kD => decide +kernel); (case c2 => exact rfl); (case c3 => exact rfl); (case c4 => exact rfl); k_whole; refine eps4 (ne4 ne_heap ne_nat ne_heap ne_nat) ((?_ : ∀ a b c d, At4 _ a b c d) _ _ _ _); intros g' L' h' tk'; refine At4.mk ?_; intros cells' FG' F' N' Y' B' X' T' l1 kG'; (try k_lt l1); k_cells Y'; (try simp only [List.cons_append, List.nil_append] at N'); (try dsimp only); (try k_fold))
  k_steps
  refine Hold.on ?_
  (rename Fr g' L' _ _ => F9)
  (rename News g' L' _ _ => N9)
  (rename IsRange _ _ _ _ _ _ _ _ => rg9)
  obtain ⟨y0, y1, y2, y3, ey⟩ := ints_four (by assumption)
  subst ey
  refine sd_again N9 F9 rfl rfl rfl ⟨_, by assumption⟩ (by assumption) ⟨by omega, by omega, by omega, by omega, by omega, by omega, by omega, by omega⟩ ?_
  intro hl hx hdx D hh hk m9 oN oP F7 N7 m1 m2 d1 d2 o1
  clear F9 N9
  have iz : @LT.lt Nat _ hl _ := Heap.lt_size (N7 (hl, _) (.head _)).1
  (try dsimp only at iz)
  rename_i hpA F1 hpB tB t5 t6 t7 aS hI8 hL8 N1 N2 N3
  clear F1 hI8 hL8 N1 N2 N3
  revert iz
  revert o1
  revert d2
  revert d1
  revert m2
  revert m1
  revert N7
  revert F7
  revert aS
  revert rg9
  revert hpA tk hpB tB t5 t6 t7 y0 y1 y2 y3 hl hx hdx D hh hk m9 oN oP
  refine eps16 (ne16 ne_heap ne_nat ne_heap ne_nat ne_nat ne_nat ne_nat ne_nat ne_nat ne_nat ne_nat ne_nat ne_nat ne_nat ne_nat ne_int) ((?_ : ∀ a0 a1 a2 a3 a4 a5 a6 a7 a8 a9 a10 a11 a12 a13 a14 a15, At16 _ a0 a1 a2 a3 a4 a5 a6 a7 a8 a9 a10 a11 a12 a13 a14 a15) _ _ _ _ _ _ _ _ _ _ _ _ _ _ _ _)
  intros hpA tk hpB tB t5 t6 t7 y0 y1 y2 y3 hl hx hdx D hh
  refine At16.mk ?_
  refine eps4 (ne4 ne_nat ne_map ne_obj ne_obj) ((?_ : ∀ a0 a1 a2 a3, At4 _ a0 a1 a2 a3) _ _ _ _)
  intros hk m9 oN oP
  refine At4.mk ?_
  intros rg9 aS F7 N7 m1 m2 d1 d2 o1 iz
  refine rng_for (L := L') (σ := SdS) dep (fun i c => sdLed rv L' hl hx hdx D hh hk _ c.oN oP _ c.vs c.ep c.tl) (fun i c m => m (Str.ofString "sides") = some (.ref hx) ∧ m (Str.ofString "heights") = some (.ref D)) (fun i c => c.vs.length = i ∧ GtL hl c.tl ∧ HdrOk (loAt (heightOf q r0) (heightOf q r1) (heightOf q r2) (heightOf q r3)) c.vs c.tl ∧ ∃ x, c.oN.data = .cell x) ⟨oN, [], 0, []⟩ ?hh rg9 ?hs ?hn F7 N7 ?h0 ?hm ?turn ?done ?hE ?ht
  case hh => rfl
  case hs => exact small_one (by omega) (by omega) (by omega) (by omega)
  case hn => rw [rangeSize_nat]; omega
  case h0 => exact ⟨rfl, (fun _ h => nomatch h), (fun _ _ e => by simp at e), d1⟩
  case hm => exact ⟨m1, m2⟩
  case hE => passes_own
  case ht => intro _ _; rfl
  case done =>
    clear F7 N7
    (repeat (rename News _ _ _ _ => z9; clear z9)); (repeat (rename Fr _ _ _ _ => z9; clear z9)); (repeat (rename IsRange _ _ _ _ _ _ _ _ => z9; clear z9)); (repeat (rename IntsAre _ _ => z9; clear z9))
    intro c m h tk hP hm F5 N5
    obtain ⟨cN, cvs, cep, ctl⟩ := c
    dsimp only [sdLed, hdrDict] at hP hm N5 ⊢
    obtain ⟨p1, p2, p4, x9, p3⟩ := hP
    obtain ⟨m3, m4⟩ := hm
    have em : m = fun y => if y = Str.ofString "sides" then some (.ref hx) else m y := by
      funext y
      by_cases y1 : y = Str.ofString "sides"
      · rw [if_pos y1, y1]; exact m3
      · rw [if_neg y1]
    rw [em] at F5
    clear em
    subst p1
    k_steps
    exact hret _ _ _ (fun b o e hb => Fr.keep (by with_reducible assumption) b o (kG' b o e hb)) ⟨sidesNew_of (g := g') (L := L') (hdx := hdx) (hl := hl) (hh := hh) (hk := hk) (vs := cvs) (ep := cep) (tl := ctl) (rv := rv) (fun q hq => N5 q (by
      simp only [hdrLed, List.mem_cons] at hq ⊢
      rcases hq with hq | hq | hq | hq
      · exact .inl hq
      · exact .inr (.inl hq)
      · exact .inr (.inr (.inl hq))
      · exact .inr (.inr (.inr (.inr (.inr (.inr (.inr hq)))))))) kG' p4 ⟨by omega, by omega, by omega⟩ p2, (N5 (rv, _) (List.mem_of_getElem? (i := 6) rfl)).1⟩
  case turn =>
    clear F7 N7
    (repeat (rename News _ _ _ _ => z9; clear z9)); (repeat (rename Fr _ _ _ _ => z9; clear z9)); (repeat (rename IsRange _ _ _ _ _ _ _ _ => z9; clear z9)); (repeat (rename IntsAre _ _ => z9; clear z9))
    intro i c m t h tk hi hP hm F5 N5 hI5
    obtain ⟨cN, cvs, cep, ctl⟩ := c
    dsimp only [sdLed, hdrDict] at hP hm N5 hI5 ⊢
    obtain ⟨p1, p2, p4, x9, p3⟩ := hP
    obtain ⟨m3, m4⟩ := hm
    have em : m = fun y => if y = Str.ofString "sides" then some (.ref hx) else if y = Str.ofString "heights" then some (.ref D) else m y := by
      funext y
      by_cases y1 : y = Str.ofString "sides"
      · rw [if_pos y1, y1]; exact m3
      · rw [if_neg y1]
        by_cases y2 : y = Str.ofString "heights"
        · rw [if_pos y2, y2]; exact m4
        · rw [if_neg y2]
    rw [em] at F5
    clear em
    refine assign_Name ?_
    have O9 := HideP.mk o1
    have K9 := HideP.mk hI5
    have I9 := HideP.mk iz
    have J9 := HideP.mk (And.intro hi (And.intro hd hu))
    clear hi hd hu o1 iz d1 d2 m1 m2 hI5
    (repeat (rename @Ne Nat _ _ ∧ _ => z9; clear z9))
    (repeat (rename @LT.lt Nat _ _ _ ∧ _ => z9; clear z9))
    (repeat (rename @LT.lt Nat _ _ _ => z9; clear z9))
    have o1 := O9.h
    have iz := I9.h
    obtain ⟨hi, hd, hu⟩ := J9.h
    clear O9 I9 J9
    revert hi
    revert K9
    revert m4
    revert m3
    revert p3
    revert p4
    revert p2
    revert p1
    revert N5
    revert F5
    revert i m t h tk cN cvs cep ctl x9
    refine eps8 (ne8 ne_nat ne_map ne_nat ne_heap ne_nat ne_obj ne_vals ne_nat) ((?_ : ∀ a0 a1 a2 a3 a4 a5 a6 a7, At8 _ a0 a1 a2 a3 a4 a5 a6 a7) _ _ _ _ _ _ _ _)
    intros i m t h tk cN cvs cep
    refine At8.mk ?_
    refine eps2 (ne2 ne_led (⟨none⟩)) ((?_ : ∀ a0 a1, At2 _ a0 a1) _ _)
    intros ctl x9
    refine At2.mk ?_
    intros F5 N5 p1 p2 p4 p3 m3 m4 K9 hi
    k_steps
    refine Hold.on ?_
    refine cp_comp (by with_reducible assumption) (by with_unfolding_all rfl) (by decide) rfl (by decide) ?_
    k_steps
    refine Hold.on ?_
    (rename Fr g' L' _ _ => F8)
    (rename News g' L' _ _ => N8)
    have hD8 := (N8 (D, _) (List.mem_of_getElem? (i := 4) rfl)).1
    have hz8 : ([Value.int (heightOf q r0) y0, Value.int (heightOf q r1) y1, Value.int (heightOf q r2) y2, Value.int (heightOf q r3) y3]).length ≤ sizeLine := Nat.le_of_ble_eq_true rfl
    refine cp_enum (fun i9 ys nx => nx = _ ∧ IntsAre ys ((termsAt [heightOf q r0, heightOf q r1, heightOf q r2, heightOf q r3] (0 + (i : Int))).take i9)) rfl ⟨_, hD8, rfl, _, rfl⟩ (.inr ⟨LCg.lst [Value.int (heightOf q r0) y0, Value.int (heightOf q r1) y1, Value.int (heightOf q r2) y2, Value.int (heightOf q r3) y3], fun _ _ nx h => by rw [h.1]; exact List.mem_of_getElem? (i := 4) rfl⟩) hz8 rfl rfl rfl (by decide) F8 N8 ⟨rfl, .nil⟩ ?turn9 ?done9
    case done9 =>
      clear hD8 F8 N8
      intro hp ys nx hj _
      obtain ⟨rfl, hj⟩ := hj
      intro D9 h9 tk9 F9 N9 o9
      obtain ⟨z0, z1, z2, z3, ez⟩ := ints_four (show IntsAre ys [(heightOf q r0 : Int) + (0 : Nat) * (0 + (i : Int)), (heightOf q r1 : Int) + (1 : Nat) * (0 + (i : Int)), (heightOf q r2 : Int) + (2 : Nat) * (0 + (i : Int)), (heightOf q r3 : Int) + (3 : Nat) * (0 + (i : Int))] from hj)
      subst ez
      clear hj
      (try dsimp only)
      rename_i hpI oI dI aM
      clear aM
      refine any_tok s _ rfl fun n3 => ?_
      revert N9
      revert o9
      revert F9
      revert dI
      revert oI D9 h9 z0 z1 z2 z3 n3
      refine eps8 (ne8 ne_obj ne_nat ne_heap ne_nat ne_nat ne_nat ne_nat ne_nat) ((?_ : ∀ a0 a1 a2 a3 a4 a5 a6 a7, At8 _ a0 a1 a2 a3 a4 a5 a6 a7) _ _ _ _ _ _ _ _)
      intros oI D9 h9 z0 z1 z2 z3 n3
      refine At8.mk ?_
      intros dI F9 o9 N9
      k_steps
      refine Hold.on ?_
      (rename _ ∨ _ ∨ _ ∨ _ => ha9)
      (rename _ ∧ _ ∧ _ ∧ _ => hb9)
      have e9 := least_is ha9 hb9
      clear ha9 hb9
      subst e9
      have k15 := hlo i hi
      have hAi : List.replicate i 65 ∈ okTexts := repA_ok (by omega)
      have hBi : digT (loAt (heightOf q r0) (heightOf q r1) (heightOf q r2) (heightOf q r3) i) ∈ okTexts := digT_ok k15
      (rename News g' L' _ _ => N7)
      k_dflt (refine' cl_pure (N := fun p hp => N7 p (.tail _ hp)) (cl_ap (digs _) (digs_ok k15) (digs_head _) _ (digs_len _)) ?k1 ?k2 ?k3 ?k4 ?k5 ?kp ?kd ?ku ?_)
      case k1 => k_asm
      case k2 => k_asm
      case k3 => k_asm
      case k4 => k_asm
      case k5 => first | exact rfl | assumption
      case kp => trivial
      case kd => ktr_room
      case ku => ktr_units
      intro v9 h9 tk9 F9 N9 hp9
      obtain ⟨t9, hp9⟩ := hp9
      subst hp9
      (try dsimp only)
      (try k_fold)
      clear N7
      k_steps
      refine Hold.on ?_
      (rename News _ _ _ _ => N7)
      have N8 := news_skip (news_skip (news_skip N7))
      clear N7
      k_dflt (refine' append_K ?k1 N8 ?k3 ?_ ?z; (case k1 => k_asm); (case k3 => k_upd); (case z => size_fits); k_whole; intro h' F' N')
      clear N8
      k_steps
      (rename News g' L' _ _ => N7)
      rw [List.push_toArray] at N7
      subst p1
      (rename @LT.lt Nat _ _ _ ∧ _ => l9)
      (rename Fr g' L' _ _ => F7)
      (rename Obj.data _ = Data.cell _ => dN9)
      refine sd_end N7 rfl (by omega) (by omega) rfl dN9 ?_
      clear N7 dN9
      intro T9 oN9 tx9 ty9 lt9 li9 dN N6
      refine RngTurn.again ⟨⟨oN9, cvs ++ [.ref T9], cep + 1, (T9, _) :: ctl⟩, _, _, _, rfl, ⟨by simp, gtL_cons p2 lt9, p4.snoc rfl, dN⟩, ⟨rfl, rfl⟩, F7, N6, ?_⟩
      intro q9 hq
      simp only [List.mem_cons] at hq
      have hI5 := K9.h
      rcases hq with rfl | rfl | rfl | rfl | rfl | rfl | rfl | rfl | hq
      · exact hI5 (hl, W.listOf cvs.toArray cep) (.head _)
      · exact hI5 _ (.tail _ (.head _))
      · exact hI5 _ (List.mem_of_getElem? (i := 2) rfl)
      · exact hI5 _ (List.mem_of_getElem? (i := 3) rfl)
      · exact hI5 (L' + 1 + 1, cN) (List.mem_of_getElem? (i := 4) rfl)
      · exact hI5 _ (List.mem_of_getElem? (i := 5) rfl)
      · exact hI5 _ (List.mem_of_getElem? (i := 6) rfl)
      · exact Nat.ne_of_gt li9
      · exact hI5 q9 (.tail _ (.tail _ (.tail _ (.tail _ (.tail _ (.tail _ (.tail _ hq)))))))
    case turn9 =>
      clear hD8 F8 N8
      intro I9 i9 v9 t9 ys nx oE oI C oC D9 m₂ h9 tk9 hp9 E9 hv hj hadr hoC ha hb F9 N9 l1 l2 l3
      obtain ⟨rfl, hj⟩ := hj
      obtain ⟨x9, t8, hx, rfl⟩ := ints_at (hs := [(heightOf q r0 : Int), heightOf q r1, heightOf q r2, heightOf q r3]) (.cons _ _ (.cons _ _ (.cons _ _ (.cons _ _ .nil)))) hv
      k_steps
      (rename News g' L' _ _ => N7)
      refine CpEnd.intro _ (by with_reducible assumption) N7 (fun p hp => hp) rfl ⟨rfl, ?_⟩
      rw [terms_snoc hx]
      exact ksk_snoc hj
end Mine
-- TupFor
namespace Mine
section
variable {prog : Program} {w : World} {A : Around} {E : Value → Shared → Prop} {env : Env} {h₀ : Heap} {L : Addr} {m₀ : Str → Option Value} {s : Shared} {Q : Flow → Shared → Prop}
/-- what holds between the turns of a loop over a list of tuples that lie in the ground -/
noncomputable def TupAt (h₀ : Heap) (L I l : Addr) (led : Led) (mP : Nat → (Str → Option Value) → Prop) (s : Shared) (i : Nat) (s₂ : Shared) : Prop :=
  ∃ m h tk, s₂ = { s with heap := h, toks := tk } ∧ mP i m ∧ h.IsListIter I l i ∧ Fr h₀ L h m ∧ News h₀ L h led
noncomputable def TupTurn (h₀ : Heap) (L I l : Addr) (led : Led) (mP : Nat → (Str → Option Value) → Prop) (s : Shared) (i : Nat) (Q : Flow → Shared → Prop) (f : Flow) (s₂ : Shared) : Prop :=
  match f with
  | .next | .cont => TupAt h₀ L I l led mP s i s₂
  | .brk => False
  | .ret v => Q (.ret v) s₂
theorem TupTurn.again {I l : Addr} {led : Led} {mP : Nat → (Str → Option Value) → Prop} {i : Nat} {s₂ : Shared} (h : TupAt h₀ L I l led mP s i s₂) : TupTurn h₀ L I l led mP s i Q .next s₂ := h
theorem TupTurn.retn {I l : Addr} {led : Led} {mP : Nat → (Str → Option Value) → Prop} {i : Nat} {s₂ : Shared} {v : Value} (h : Q (.ret v) s₂) : TupTurn h₀ L I l led mP s i Q (.ret v) s₂ := h
theorem tup_for {elts : List Expr} {x1} {tp : Pos} {body : List Stmt} {l : Addr} {vs : List Value} {ep : Nat} {led : Led} (mP : Nat → (Str → Option Value) → Prop)
    (hh : A.handled = none) (hl : (l, W.listOf vs.toArray ep) ∈ led) (F : Fr h₀ L s.heap m₀) (N : News h₀ L s.heap led) (hv : ∀ v ∈ vs, ∃ T, v = .ref T) (hm0 : mP 0 m₀)
    (turn : ∀ (i : Nat) I oI T m h tk, vs[i]? = some (.ref T) → mP i m → oI.cls = .type "list_iterator" → oI.data = .fields #[.ref l, .int (i + 1 : Nat) 0] → (∀ q ∈ led, @LT.lt Nat _ q.1 I) → Fr h₀ L h m → News h₀ L h ((I, oI) :: led) →
      wpAny (model prog w) A (assign (.Tuple elts x1 tp) env (.ref T)) (fun _ s₂ => wpAny (model prog w) A (execs body env) (TupTurn h₀ L I l led mP s (i + 1) Q) E s₂) E { s with heap := h, toks := tk })
    (done : ∀ m h tk, mP vs.length m → Fr h₀ L h m → News h₀ L h led → Q .next { s with heap := h, toks := tk })
    (hE : PassesOwn (model prog w) A env E := by passes_own) :
    wpAny (model prog w) A (pyIter (.ref l)) (fun it s₂ => codeAny (model prog w) A (.forLoop (.Tuple elts x1 tp) it body [] env) (fun r s' => match r with | .ok f => Q f s' | .error e => cameBackBy (model prog w) A env E e s') s₂) E s := by
  have isl : ∀ {h : Heap}, News h₀ L h led → h.IsList l vs.toArray := fun N => ⟨_, (N _ hl).1, rfl, ep, rfl⟩
  refine wpAny_pyIter_list (isl N) ?_
  have hlt : ∀ q ∈ led, @LT.lt Nat _ q.1 s.heap.objs.size := fun q hq => Heap.lt_size (N q hq).1
  have I₀ : h₀.get? s.heap.objs.size = none := next_is_new F
  have hLI : L ≠ s.heap.objs.size := Nat.ne_of_lt F.ns.lt
  refine codeAny_forLoop_any (fun k s' => ∃ i : Nat, k = vs.length - i ∧ i ≤ vs.length ∧ TupAt h₀ L s.heap.objs.size l led mP s i s') ?_ vs.length
    ⟨0, rfl, Nat.zero_le _, m₀, _, s.toks, rfl, hm0, ⟨_, Heap.get?_push_size _ rfl, rfl, rfl⟩, F.push _, fun q hq => ⟨Heap.get?_push_of_some _ (N q hq).1, (N q hq).2⟩⟩
  rintro k s' ⟨i, rfl, hi, m, h, tk, rfl, hm, hit, F', N'⟩
  have next : ∀ h' : Heap, Heap.ExtBut s.heap.objs.size h h' → Fr h₀ L h' m ∧ News h₀ L h' led := fun h' hs => by
    obtain ⟨oL, es3, ep3, hL, r3⟩ := F'.ns
    exact ⟨⟨⟨oL, es3, ep3, hs _ _ hLI hL, r3⟩, fun b o e => hs _ _ (fun q => by rw [q, I₀] at e; cases e) (F'.keep b o e), F'.above⟩, fun q hq => ⟨hs _ _ (Nat.ne_of_lt (hlt q hq)) (N' q hq).1, (N' q hq).2⟩⟩
  by_cases e : i < vs.length
  · obtain ⟨T, hT⟩ := hv vs[i] (List.getElem_mem e)
    refine wpAny_pyNext_list_item hit (isl N') (x := .ref T) (by rw [← hT]; simp [e]) fun h' hit' hs => ?_
    obtain ⟨F2, N2⟩ := next h' hs.extBut
    refine wpAny_letOwnedTupleGo_listiter hit' ?_
    obtain ⟨oI, g1, g2, g3⟩ := hit'
    refine wpAny_mono (wpAny_passesOwn hE (turn i _ oI T m h' _ (by rw [← hT]; simp [e]) hm g2 g3 hlt F2 (fun q hq => ?_))) (fun _ s₃ z => ?_) fun _ _ e => e
    · rcases List.mem_cons.mp hq with rfl | hq
      · exact ⟨g1, Ne.symm hLI, I₀⟩
      · exact N2 q hq
    refine wpAny_mono (wpAny_passesOwn hE z) (fun f s₄ z => ?_) fun _ _ e => e
    cases f with
    | ret v => exact z
    | brk => exact z.elim
    | next => exact ⟨vs.length - (i + 1), by omega, i + 1, rfl, by omega, z⟩
    | cont => exact ⟨vs.length - (i + 1), by omega, i + 1, rfl, by omega, z⟩
  · have : i = vs.length := by omega
    subst this
    refine wpAny_pyNext_list_end hh hit (isl N') (by simp) fun h' hs => ?_
    obtain ⟨F2, N2⟩ := next h' hs
    exact wpAny_execs_nil (done m h' tk hm F2 N2)
end
end Mine
-- Hget
namespace Mine
theorem low_rep {k : Nat} (h : k < 6) : Txt.lower ⟨(List.replicate k 65).toArray⟩ = ⟨(List.replicate k 97).toArray⟩ := by
  have all : ∀ n : Fin 6, Txt.lower ⟨(List.replicate n.val 65).toArray⟩ = ⟨(List.replicate n.val 97).toArray⟩ := by decide +kernel
  exact all ⟨k, h⟩
theorem low_len {k : Nat} (h : k < 6) : Builtin.Str.tooLong (Txt.lower ⟨(List.replicate k 65).toArray⟩).length = false := by
  have all : ∀ n : Fin 6, Builtin.Str.tooLong (Txt.lower ⟨(List.replicate n.val 65).toArray⟩).length = false := by decide +kernel
  exact all ⟨k, h⟩
theorem repa_ok {k : Nat} (h : k < 6) : List.replicate k 97 ∈ okTexts := by
  have all : ∀ n : Fin 6, List.replicate n.val 97 ∈ okTexts := by decide
  exact all ⟨k, h⟩
theorem rep_eq {i j : Nat} : ((⟨(List.replicate i 97).toArray⟩ : Str) == ⟨(List.replicate j 97).toArray⟩) = decide (i = j) := by
  rw [Bool.eq_iff_iff, beq_iff_eq, decide_eq_true_eq]
  constructor
  · intro e
    injection e with e
    have := congrArg Array.size e
    simpa using this
  · rintro rfl; rfl
noncomputable abbrev hdr3 (hx hdx hl : Addr) (hh : Int) (hk : Tok) (vs : List Value) (ep : Nat) : Led := [(hl, W.listOf vs.toArray ep), (hx, instObj 268 hdx), (hdx, hdrDict hh hk hl)]
theorem cl_hget : ∀ (hx hdx hl : Addr) (hh : Int) (hk : Tok) (vs : List Value) (ep : Nat) (tl : Led) (lo : Nat → Nat) (j : Nat) (tj : Tok) (hj : j < vs.length) (h6 : vs.length ≤ 6) (hv : HdrOk lo vs tl), Cl 2 215 [.ref hx, .str ⟨(List.replicate j 65).toArray⟩ tj] [] (hdr3 hx hdx hl hh hk vs ep) (fun h => (@LT.lt Nat _ hdx hx ∧ @LT.lt Nat _ hx hl) ∧ ∀ q ∈ tl, h.get? q.1 = some q.2 ∧ @LT.lt Nat _ hl q.1)
      (fun v _ h' => (∃ t, v = .str (lett (digs (lo j))) t) ∧ ∀ q ∈ hdr3 hx hdx hl hh hk vs ep, h'.get? q.1 = some q.2) := by
  refine eps8 (ne8 ne_nat ne_nat ne_nat ne_int ne_nat ne_vals ne_nat ne_led) ((?_ : ∀ a0 a1 a2 a3 a4 a5 a6 a7, At8 _ a0 a1 a2 a3 a4 a5 a6 a7) _ _ _ _ _ _ _ _)
  intros hx hdx hl hh hk vs ep tl
  refine At8.mk ?_
  refine eps3 (ne3 (⟨fun n => n⟩) ne_nat ne_nat) ((?_ : ∀ a0 a1 a2, At3 _ a0 a1 a2) _ _ _)
  intros lo j tj
  refine At3.mk ?_
  intros hj
  intros h6
  intros hv
  k_with_none
  k_with "kne" => (refine neN ?_; (try dsimp only); first | exact Nat.ne_of_gt (by with_reducible assumption) | exact Nat.ne_of_lt (by with_reducible assumption) | with_reducible assumption | exact Ne.symm (by with_reducible assumption) | exact Nat.succ_ne_self _ | exact Ne.symm (Nat.succ_ne_self _) | (apply Nat.ne_of_gt; apply And.left; k_extra "krn"; done) | (apply Nat.ne_of_lt; apply And.left; k_extra "krn"; done) | (apply Nat.ne_of_gt; k_extra "krn"; done) | (apply Nat.ne_of_lt; k_extra "krn"; done) | k_extra "kd4" | (apply Ne.symm; k_extra "kd4") | omega)
  k_with "kd1" => first | with_reducible assumption | (apply And.left; with_reducible assumption) | (apply And.right; with_reducible assumption)
  k_with "kd2" => first | with_reducible assumption | (apply And.left; k_extra "kd1") | (apply And.right; k_extra "kd1")
  k_with "kd3" => first | with_reducible assumption | (apply And.left; k_extra "kd2") | (apply And.right; k_extra "kd2")
  k_with "kd4" => first | with_reducible assumption | (apply And.left; k_extra "kd3") | (apply And.right; k_extra "kd3")
  k_with "krn" => ((iterate 19 (first | done | with_reducible assumption | apply And.right)); done)
  k_with "omg" => first | exact Mine.room2 (by with_reducible assumption) rfl | exact Mine.units2 (by with_reducible assumption) cLine_is rfl | ((repeat (rename @Ne Nat _ _ => z9w; clear z9w)); (repeat (rename @Ne Nat _ _ ∧ _ => z9w; clear z9w)); (repeat (rename (@Ne Nat _ _ ∧ _) ∧ _ => z9w; clear z9w)); omega +splitDisjunctions)
  k_with "call builtin:str.lower" => (k_here; (with_reducible show wpAny _ _ (call (Value.builtin "str.lower") [Value.str ⟨(List.replicate _ 65).toArray⟩ _]) _ _ _); (refine KXw.lower (low_rep (by omega)) (low_len (by omega)) ?_); intro _ _)
  k_with "call ref" => ((with_reducible show wpAny _ _ (PySem.call (Value.ref 167) [Value.ref _, Value.str _ _] _) _ _ _); k_dflt (refine' cl_pure (cl_conv _ _ _ (by assumption) _) ?k1 ?k2 ?k3 ?k4 ?k5 ?k6 ?kp ?kd ?ku ?_; (case k1 => k_asm); (case k2 => k_asm); (case k3 => k_asm); (case k4 => k_asm); (case k5 => first | exact rfl | assumption); (case k6 => k_asm); (case kp => trivial); (case kd => ktr_room); (case ku => ktr_units); intro v9w h9w tk9w F9w N9w hp9w; (subst hp9w); (try dsimp only); (try k_fold)); walk_say "CONTRACT")
  k_with "exec For" => (k_here; (with_reducible show wpAny _ _ (exec (Stmt.For (Expr.Tuple _ _ _) (Expr.Attribute _ _ _) _ [] _) _) _ _ _); refine wpAny_For ?_ (fun _ => rfl))
  k_with "pyIter ref" => ((with_reducible show wpAny _ _ (pyIter (Value.ref _)) _ _ _); refine Hold.of ?_; walk_say "BREAK")
  w_top off
  unfold Cl
  k_fill
  refine eps23 ne_cx ((?_ : ∀ w p loose mean mg mb dp un gd cn cs a ccd cl outer A₀ base h₀ L m s Q E, At23 _ w p loose mean mg mb dp un gd cn cs a ccd cl outer A₀ base h₀ L m s Q E) _ _ _ _ _ _ _ _ _ _ _ _ _ _ _ _ _ _ _ _ _ _ _)
  intros w p loose mean mg mb dp un gd cn cs a ccd cl outer A₀ base h₀ L m s Q E
  refine At23.mk ?_
  intros B F X T hk N hpre hd hu hret
  k_dflt (refine' code_defG ?k1 ?k2 ?k3 ?k4 ?k5 ?kA ?kF ?kK ?k6 ?k7 ?k8 ?k9 ?kB ?_ ?c2 ?c3 ?c4 ?c5; (case kA => exact rfl); (case kF => exact rfl); (case kK => assumption); (case k1 => k_asm); (case k2 => k_asm); (case k3 => k_asm); (case k4 => k_asm); (case k5 => k_asm); (case k6 => k_is); (case k7 => k_is); (case k8 => ktr_room); (case k9 => first | exact BindsTo.of_eq rfl | exact binds_K (by k_in) rfl (by k_is) rfl rfl rfl); (case c5 => decide); (case kB => exact locs rfl); (case c2 => exact rfl); (case c3 => exact rfl); (case c4 => exact rfl); k_whole; refine eps3 (ne3 ne_heap ne_nat ne_heap) ((?_ : ∀ a b c, At3 _ a b c) _ _ _); intros g' L' h'; refine At3.mk ?_; intros FG' F' N' B' X' T' kG'; (try dsimp only); (try k_fold))
  obtain ⟨⟨n1, n2⟩, htl⟩ := hpre
  have hok9 : List.replicate j 97 ∈ okTexts := repa_ok (by omega)
  dsimp only [hdr3, hdrDict] at N'
  k_steps
  refine Hold.on ?_
  (rename Fr g' L' _ _ => F9)
  (rename News g' L' _ _ => N9)
  refine tup_for (fun i m => (∃ t, m (Str.ofString "name") = some (.str ⟨(List.replicate j 97).toArray⟩ t)) ∧ i ≤ j) rfl (.head _) F9 N9 ?hv ⟨⟨_, rfl⟩, Nat.zero_le _⟩ ?turn ?done
  case hv =>
    intro v hm
    obtain ⟨i, hi, e⟩ := List.getElem_of_mem hm
    obtain ⟨T, _, _, e2, _⟩ := hv i v (by simp [hi, e])
    exact ⟨T, e2⟩
  case done =>
    intro m h tk hP
    exact absurd hP.2 (by omega)
  case turn =>
    clear F9 N9
    (repeat (rename News _ _ _ _ => z9; clear z9)); (repeat (rename Fr _ _ _ _ => z9; clear z9)); (repeat (rename IsRange _ _ _ _ _ _ _ _ => z9; clear z9)); (repeat (rename IntsAre _ _ => z9; clear z9))
    intro i I oI T m h tk hT hP ho1 ho2 l1 F5 N5
    obtain ⟨⟨tn, hn⟩, hij⟩ := hP
    obtain ⟨T', tx, ty, e, hm⟩ := hv i _ hT
    cases e
    have hg : g'.get? T = _ := kG' _ _ (htl _ hm).1 (by
      have := (htl _ hm).2
      simp only [List.map_cons, List.map_nil, List.mem_cons, List.not_mem_nil, or_false, not_or]
      exact ⟨Nat.ne_of_gt this, Nat.ne_of_gt (Nat.lt_trans n2 this), Nat.ne_of_gt (Nat.lt_trans n1 (Nat.lt_trans n2 this))⟩)
    have hTup : IsTup h T #[.str ⟨(List.replicate i 65).toArray⟩ tx, .str (lett (digs (lo i))) ty] := ⟨_, F5.keep _ _ hg, rfl, _, rfl⟩
    have em : m = fun y => if y = Str.ofString "name" then some (.str ⟨(List.replicate j 97).toArray⟩ tn) else m y := by
      funext y
      by_cases y1 : y = Str.ofString "name"
      · rw [if_pos y1, y1]; exact hn
      · rw [if_neg y1]
    rw [em] at F5
    clear em hn hg hm
    (try k_fold)
    k_steps
    · dsimp only
      k_steps
      refine TupTurn.retn ?_
      k_steps
      (rename (_ == _) = true => hq)
      rw [rep_eq, decide_eq_true_eq] at hq
      subst hq
      (rename News g' L' _ _ => N6)
      exact hret _ _ _ (fun b o e hb => Fr.keep (by with_reducible assumption) b o (kG' b o e hb)) ⟨⟨_, rfl⟩, fun q hq => (N6 q (.tail _ hq)).1⟩
    · (rename (_ == _) = false => hq)
      rw [rep_eq, decide_eq_false_iff_not] at hq
      (rename News g' L' _ _ => N6)
      (rename Fr g' L' _ _ => F6)
      exact TupTurn.again ⟨_, _, _, rfl, ⟨⟨_, rfl⟩, by omega⟩, ⟨oI, (N6 (I, oI) (.head _)).1, ho1, ho2⟩, F6, fun q hq => N6 q (.tail _ hq)⟩
end Mine
-- CompS
namespace Mine
open PyProof.Rows.LCg
section
variable {prog : Program} {w : World} {A : Around} {E : Value → Shared → Prop} {s : Shared} {h₀ : Heap} {L : Addr} {m : Str → Option Value} {env : Env}
theorem own_one {own : Led} {a : Addr} (h : own.map (·.1) = [a]) : ∃ o1, own = [(a, o1)] := by
  obtain ⟨o1, r1, e1, h1⟩ := own_cons h
  rw [e1, own_nil h1]
  exact ⟨o1, rfl⟩
/-- a block of one name, over one iterator -/
theorem cp_one {elt : Expr} {x : Str} {px : Pos} {scope : Scope} {cl : List (Str × Addr)} {Fin : Shared → List Value → Led → Prop} {I : Addr} {fp : List Addr} {n : Nat} {P : Nat → Value → Prop} {St : Nat → Heap → Prop} {news : Led} (J : Nat → List Value → Led → Prop)
    (W : Walks prog w A I fp [I] n P St) (ho : ∀ i h, St i h → ∃ o, h.get? I = some o) (hsz : n ≤ sizeLine) (F : Fr h₀ L s.heap m) (N : News h₀ L s.heap news) (hst : St 0 s.heap)
    (hI : @LT.lt Nat _ I s.heap.objs.size ∧ h₀.get? I = none ∧ L ≠ I ∧ ∀ p ∈ news, @LT.lt Nat _ p.1 I) (hfp : ∀ b ∈ fp, b = I ∨ (∃ o, h₀.get? b = some o) ∨ ∃ o, ∀ i ys nx, J i ys nx → (b, o) ∈ nx)
    (hkind : scope.kind = .function) (hx : scope.names.lookup x = some .local) (hJ : J 0 [] news)
    (turn : ∀ i v ys nx oI C oC D m₂ h tk (E' : Value → Shared → Prop), i < n → P i v → J i ys nx → nx.map (·.1) = news.map (·.1) → NsObj oC m₂ → m₂ x = some v → Fr h₀ L h m →
      News h₀ L h ((I, oI) :: (C, oC) :: (D, lst ys) :: nx) → (∀ p ∈ nx, @LT.lt Nat _ p.1 I) → @LT.lt Nat _ I D → @LT.lt Nat _ D C →
      wpAny (model prog w) A (eval elt (compEnvC scope cl C env)) (CpEnd h₀ L m s [(I, oI)] C oC D (lst ys) (news.map (·.1)) (fun y nx' => J (i + 1) (ys ++ [y]) nx')) E' { s with heap := h, toks := tk })
    (done : ∀ ys nx, J n ys nx → nx.map (·.1) = news.map (·.1) → Fin s ys nx) : BlockT prog w A h₀ L m env elt (.Name x px) scope cl Fin (.ref I) s := by
  refine ⟨I, fp, [I], n, _, _, _, news, fun i m'' => ∃ v, P i v ∧ m'' x = some v, J, rfl, ⟨KTurns.ofWalks W fun i v s Q E _ h => wpAny_pure h, fun s Q E => W.self 0 s Q E, ?own⟩, hsz, F, N, hst, ?wr, ?fp, ?asg, hJ, ?turn, done⟩
  case own =>
    intro i h st
    obtain ⟨o, e⟩ := ho i h st
    exact ⟨[(I, o)], rfl, fun p hp => by rw [List.mem_singleton.mp hp]; exact e⟩
  case wr =>
    intro b hb
    rw [List.mem_singleton.mp hb]
    exact hI
  case fp =>
    intro b hb
    rcases hfp b hb with h | h
    · exact .inl (by rw [h]; exact .head _)
    · exact .inr h
  case asg =>
    intro i v s₂ C m' Q' E' hi hP hn k
    refine wpAny_assign_Name (wpAny_storeName_local (lookup_relabel_local hx) hn (fun h₃ hn₃ hs₃ => ?_) (by simp [compEnvC, relabel, hkind]))
    exact k h₃ _ _ ⟨v, hP, by simp⟩ hn₃ fun c o hc e => hs₃.extBut c o hc e
  case turn =>
    intro i ys nx own C oC D m₂ h tk E' hi hj hadr how hoC hB F' N' l1 l2 l3
    obtain ⟨v, hv, h1⟩ := hB
    obtain ⟨o1, rfl⟩ := own_one how
    refine turn i v ys nx o1 C oC D m₂ h tk E' hi hv hj hadr hoC h1 F' N' (fun p hp => l3 _ ?_ p hp) (l1 (I, o1) ?_) l2
    · exact .head _
    · exact .head _
/-- a block over a text's signs -/
theorem cp_str {elt : Expr} {x : Str} {px : Pos} {scope : Scope} {cl : List (Str × Addr)} {Fin : Shared → List Value → Led → Prop} {y : Str} {t : Tok} {news : Led} (J : Nat → List Value → Led → Prop)
    (hh : A.handled = none) (hsz : y.cps.size ≤ sizeLine) (F : Fr h₀ L s.heap m) (N : News h₀ L s.heap news) (hkind : scope.kind = .function) (hx : scope.names.lookup x = some .local) (hJ : J 0 [] news)
    (turn : ∀ (I : Addr) i v ys nx oI C oC D m₂ h tk hp (E' : Value → Shared → Prop), SignAt y i v → J i ys nx → nx.map (·.1) = news.map (·.1) → NsObj oC m₂ → m₂ x = some v → Fr h₀ L h m →
      News h₀ L h ((I, oI) :: (C, oC) :: (D, lst ys) :: nx) → (∀ p ∈ nx, @LT.lt Nat _ p.1 I) → @LT.lt Nat _ I D → @LT.lt Nat _ D C →
      wpAny (model prog w) A (eval elt (compEnvC scope cl C env)) (CpEnd h₀ L m { s with heap := hp } [(I, oI)] C oC D (lst ys) (news.map (·.1)) (fun y nx' => J (i + 1) (ys ++ [y]) nx')) E' { s with heap := h, toks := tk })
    (done : ∀ hp ys nx, J y.cps.size ys nx → nx.map (·.1) = news.map (·.1) → Fin { s with heap := hp } ys nx) :
    wpAny (model prog w) A (pyIter (.str y t)) (fun it s₂ => BlockT prog w A h₀ L m env elt (.Name x px) scope cl Fin it s₂) E s := by
  have go : ∀ (o : Obj) (c : String), o.isFreed = false → Walks prog w A s.heap.objs.size [s.heap.objs.size] [s.heap.objs.size] y.cps.size (SignAt y) (fun i h => h.IsStrIter s.heap.objs.size c y t i) → (s.heap.push o).IsStrIter s.heap.objs.size c y t 0 →
      BlockT prog w A h₀ L m env elt (.Name x px) scope cl Fin (.ref s.heap.objs.size) { s with heap := s.heap.push o } := by
    intro o c ho W hst
    have up : ∀ b o', s.heap.get? b = some o' → (s.heap.push o).get? b = some o' := fun b o' e => Heap.get?_push_of_some _ e
    refine cp_one J W (fun i h st => by obtain ⟨o', e, _⟩ := st; exact ⟨o', e⟩) hsz (F.keeps up) (N.grown up) hst ⟨?_, next_is_new F, Nat.ne_of_lt F.ns.lt, fun p hp => Heap.lt_size (N p hp).1⟩ (fun b hb => .inl (List.mem_singleton.mp hb)) hkind hx hJ ?_ (done _)
    · show @LT.lt Nat _ _ (s.heap.push o).objs.size
      rw [Heap.size_push]; exact Nat.lt_succ_self _
    · intro i v ys nx oI C oC D m₂ h tk E' hi hv hj hadr hoC h1 F' N' l1 l2 l3
      exact turn _ i v ys nx oI C oC D m₂ h tk _ E' hv hj hadr hoC h1 F' N' l1 l2 l3
  cases ha : y.cps.all (· < 128)
  · exact wpAny_pyIter_wide ha (go _ _ rfl (Walks.strWide hh _ y t) ⟨_, Heap.get?_push_size _ rfl, rfl, rfl⟩)
  · exact wpAny_pyIter_ascii ha (go _ _ rfl (Walks.strAscii hh _ y t) ⟨_, Heap.get?_push_size _ rfl, rfl, rfl⟩)
/-- a block over a tuple -/
theorem cp_tup {elt : Expr} {x : Str} {px : Pos} {scope : Scope} {cl : List (Str × Addr)} {Fin : Shared → List Value → Led → Prop} {l : Addr} {vs : List Value} {news : Led} (J : Nat → List Value → Led → Prop)
    (hh : A.handled = none) (hl : s.heap.IsTuple l vs.toArray) (hsrc : (∃ o, h₀.get? l = some o) ∨ ∃ o, ∀ i ys nx, J i ys nx → (l, o) ∈ nx) (hsz : vs.length ≤ sizeLine) (F : Fr h₀ L s.heap m) (N : News h₀ L s.heap news) (hkind : scope.kind = .function) (hx : scope.names.lookup x = some .local) (hJ : J 0 [] news)
    (turn : ∀ (I : Addr) i v ys nx oI C oC D m₂ h tk hp (E' : Value → Shared → Prop), vs[i]? = some v → J i ys nx → nx.map (·.1) = news.map (·.1) → NsObj oC m₂ → m₂ x = some v → Fr h₀ L h m →
      News h₀ L h ((I, oI) :: (C, oC) :: (D, lst ys) :: nx) → (∀ p ∈ nx, @LT.lt Nat _ p.1 I) → @LT.lt Nat _ I D → @LT.lt Nat _ D C →
      wpAny (model prog w) A (eval elt (compEnvC scope cl C env)) (CpEnd h₀ L m { s with heap := hp } [(I, oI)] C oC D (lst ys) (news.map (·.1)) (fun y nx' => J (i + 1) (ys ++ [y]) nx')) E' { s with heap := h, toks := tk })
    (done : ∀ hp ys nx, J vs.length ys nx → nx.map (·.1) = news.map (·.1) → Fin { s with heap := hp } ys nx) :
    wpAny (model prog w) A (pyIter (.ref l)) (fun it s₂ => BlockT prog w A h₀ L m env elt (.Name x px) scope cl Fin it s₂) E s := by
  obtain ⟨lo, hlo, hlr⟩ := id hl
  have hlt : @LT.lt Nat _ l s.heap.objs.size := Heap.lt_size hlo
  refine wpAny_pyIter_tuple hl ?_
  have up : ∀ b o', s.heap.get? b = some o' → (s.heap.push { cls := .type "tuple_iterator", data := .fields #[.ref l, .int 0 0] }).get? b = some o' := fun b o' e => Heap.get?_push_of_some _ e
  refine cp_one J (Walks.tuple hh s.heap.objs.size l (Nat.ne_of_lt hlt) vs.toArray) (fun i h st => by obtain ⟨o', e, _⟩ := st.1; exact ⟨o', e⟩) (by simpa using hsz) (F.keeps up) (N.grown up) ⟨⟨_, Heap.get?_push_size _ rfl, rfl, rfl⟩, hl.at fun o e => up l o e⟩ ⟨?_, next_is_new F, Nat.ne_of_lt F.ns.lt, fun p hp => Heap.lt_size (N p hp).1⟩ ?_ hkind hx hJ ?_ ?_
  · show @LT.lt Nat _ _ (s.heap.push _).objs.size
    rw [Heap.size_push]; exact Nat.lt_succ_self _
  · intro b hb
    rcases List.mem_cons.mp hb with h | hb
    · exact .inl h
    · rw [List.mem_singleton.mp hb]; exact .inr hsrc
  · intro i v ys nx oI C oC D m₂ h tk E' hi hv hj hadr hoC h1 F' N' l1 l2 l3
    exact turn _ i v ys nx oI C oC D m₂ h tk _ E' (by simpa using hv) hj hadr hoC h1 F' N' l1 l2 l3
  · intro ys nx hj hadr
    exact done _ ys nx (by simpa using hj) hadr
/-- a block over a list -/
theorem cp_lst {elt : Expr} {x : Str} {px : Pos} {scope : Scope} {cl : List (Str × Addr)} {Fin : Shared → List Value → Led → Prop} {l : Addr} {vs : List Value} {news : Led} (J : Nat → List Value → Led → Prop)
    (hh : A.handled = none) (hl : s.heap.IsList l vs.toArray) (hsrc : (∃ o, h₀.get? l = some o) ∨ ∃ o, ∀ i ys nx, J i ys nx → (l, o) ∈ nx) (hsz : vs.length ≤ sizeLine) (F : Fr h₀ L s.heap m) (N : News h₀ L s.heap news) (hkind : scope.kind = .function) (hx : scope.names.lookup x = some .local) (hJ : J 0 [] news)
    (turn : ∀ (I : Addr) i v ys nx oI C oC D m₂ h tk hp (E' : Value → Shared → Prop), vs[i]? = some v → J i ys nx → nx.map (·.1) = news.map (·.1) → NsObj oC m₂ → m₂ x = some v → Fr h₀ L h m →
      News h₀ L h ((I, oI) :: (C, oC) :: (D, lst ys) :: nx) → (∀ p ∈ nx, @LT.lt Nat _ p.1 I) → @LT.lt Nat _ I D → @LT.lt Nat _ D C →
      wpAny (model prog w) A (eval elt (compEnvC scope cl C env)) (CpEnd h₀ L m { s with heap := hp } [(I, oI)] C oC D (lst ys) (news.map (·.1)) (fun y nx' => J (i + 1) (ys ++ [y]) nx')) E' { s with heap := h, toks := tk })
    (done : ∀ hp ys nx, J vs.length ys nx → nx.map (·.1) = news.map (·.1) → Fin { s with heap := hp } ys nx) :
    wpAny (model prog w) A (pyIter (.ref l)) (fun it s₂ => BlockT prog w A h₀ L m env elt (.Name x px) scope cl Fin it s₂) E s := by
  obtain ⟨lo, hlo, hlr⟩ := id hl
  have hlt : @LT.lt Nat _ l s.heap.objs.size := Heap.lt_size hlo
  refine wpAny_pyIter_list hl ?_
  have up : ∀ b o', s.heap.get? b = some o' → (s.heap.push { cls := .type "list_iterator", data := .fields #[.ref l, .int 0 0] }).get? b = some o' := fun b o' e => Heap.get?_push_of_some _ e
  refine cp_one J (Walks.list hh s.heap.objs.size l (Nat.ne_of_lt hlt) vs.toArray) (fun i h st => by obtain ⟨o', e, _⟩ := st.1; exact ⟨o', e⟩) (by simpa using hsz) (F.keeps up) (N.grown up) ⟨⟨_, Heap.get?_push_size _ rfl, rfl, rfl⟩, hl.at fun o e => up l o e⟩ ⟨?_, next_is_new F, Nat.ne_of_lt F.ns.lt, fun p hp => Heap.lt_size (N p hp).1⟩ ?_ hkind hx hJ ?_ ?_
  · show @LT.lt Nat _ _ (s.heap.push _).objs.size
    rw [Heap.size_push]; exact Nat.lt_succ_self _
  · intro b hb
    rcases List.mem_cons.mp hb with h | hb
    · exact .inl h
    · rw [List.mem_singleton.mp hb]; exact .inr hsrc
  · intro i v ys nx oI C oC D m₂ h tk E' hi hv hj hadr hoC h1 F' N' l1 l2 l3
    exact turn _ i v ys nx oI C oC D m₂ h tk _ E' (by simpa using hv) hj hadr hoC h1 F' N' l1 l2 l3
  · intro ys nx hj hadr
    exact done _ ys nx (by simpa using hj) hadr
/-- a block over a range -/
theorem cp_rng {elt : Expr} {x : Str} {px : Pos} {scope : Scope} {cl : List (Str × Addr)} {Fin : Shared → List Value → Led → Prop} {r : Addr} {a b : Int} {t u v : Tok} {n : Nat} {news : Led} (J : Nat → List Value → Led → Prop)
    (hh : A.handled = none) (hr : IsRange s.heap r a b 1 t u v) (hsm : Builtin.Range.small a b 1 = true) (hn : Builtin.Range.rangeSize a b 1 = (n : Int)) (hsz : n ≤ sizeLine) (F : Fr h₀ L s.heap m) (N : News h₀ L s.heap news) (hkind : scope.kind = .function) (hx : scope.names.lookup x = some .local) (hJ : J 0 [] news)
    (turn : ∀ (I : Addr) (i : Nat) t ys nx oI C oC D m₂ h tk hp (E' : Value → Shared → Prop), i < n → J i ys nx → nx.map (·.1) = news.map (·.1) → NsObj oC m₂ → m₂ x = some (.int (a + (i : Int)) t) → Fr h₀ L h m →
      News h₀ L h ((I, oI) :: (C, oC) :: (D, lst ys) :: nx) → (∀ p ∈ nx, @LT.lt Nat _ p.1 I) → @LT.lt Nat _ I D → @LT.lt Nat _ D C →
      wpAny (model prog w) A (eval elt (compEnvC scope cl C env)) (CpEnd h₀ L m { s with heap := hp } [(I, oI)] C oC D (lst ys) (news.map (·.1)) (fun y nx' => J (i + 1) (ys ++ [y]) nx')) E' { s with heap := h, toks := tk })
    (done : ∀ hp ys nx, J n ys nx → nx.map (·.1) = news.map (·.1) → Fin { s with heap := hp } ys nx) :
    wpAny (model prog w) A (pyIter (.ref r)) (fun it s₂ => BlockT prog w A h₀ L m env elt (.Name x px) scope cl Fin it s₂) E s := by
  refine wpAny_pyIter_range hr hsm ?_
  refine cp_one J (LCg.range_walks hh a n) (fun i h st => ⟨_, st⟩) hsz (F.keeps fun _ _ e => Heap.get?_push_of_some _ e) (N.grown fun _ _ e => Heap.get?_push_of_some _ e) (by show IsRangeIter _ _ _ _ _; rw [hn]; simpa using Heap.get?_push_size _ rfl) ⟨?_, next_is_new F, Nat.ne_of_lt F.ns.lt, fun p hp => Heap.lt_size (N p hp).1⟩ (fun b hb => .inl (List.mem_singleton.mp hb)) hkind hx hJ ?_ (done _)
  · show @LT.lt Nat _ _ (s.heap.push _).objs.size
    rw [Heap.size_push]; exact Nat.lt_succ_self _
  · intro i v ys nx oI C oC D m₂ h tk E' hi hv hj hadr hoC h1 F' N' l1 l2 l3
    obtain ⟨t, rfl⟩ := hv
    exact turn _ i t ys nx oI C oC D m₂ h tk _ E' hi hj hadr hoC h1 F' N' l1 l2 l3
end
end Mine
-- Ltr
namespace Mine
noncomputable def letC (n : Int) : List Nat := [4, 3, 2, 1, 0].map fun k : Nat => (65 + Int.fmod (Int.fdiv n (16 ^ k)) 16).toNat
/-- a number's letters -/
noncomputable def letS (n : Int) : Str := ⟨((letC n).dropWhile (· == 65)).toArray⟩
theorem five_at {t0 t1 t2 t3 t4 : Tok} {i : Nat} {v : Value} (h : ([.int 4 t0, .int 3 t1, .int 2 t2, .int 1 t3, .int 0 t4] : List Value)[i]? = some v) : ∃ (k : Nat) (t : Tok), v = .int (k : Int) t ∧ k + i = 4 := by
  rcases i with _ | _ | _ | _ | _ | i
  · exact ⟨4, t0, by simpa using h.symm, rfl⟩
  · exact ⟨3, t1, by simpa using h.symm, rfl⟩
  · exact ⟨2, t2, by simpa using h.symm, rfl⟩
  · exact ⟨1, t3, by simpa using h.symm, rfl⟩
  · exact ⟨0, t4, by simpa using h.symm, rfl⟩
  · simp at h
theorem Chars.snoc {vs : List Value} {cs : List Nat} (h : Chars vs cs) (c : Nat) (t : Tok) : Chars (vs ++ [.str ⟨#[c]⟩ t]) (cs ++ [c]) := by
  induction h with
  | nil => exact .cons c t .nil
  | cons d u _ ih => exact .cons d u ih
theorem letC_snoc {n : Int} {k i : Nat} (h : k + i = 4) : (letC n).take (i + 1) = (letC n).take i ++ [(65 + Int.fmod (Int.fdiv n (16 ^ k)) 16).toNat] := by
  have : (letC n)[i]? = some (65 + Int.fmod (Int.fdiv n (16 ^ k)) 16).toNat := by
    have e : k = 4 - i := by omega
    subst e
    rcases i with _ | _ | _ | _ | _ | i
    all_goals first | rfl | omega
  rw [List.take_add_one, this]; rfl
theorem p16_ne (k : Nat) : (16 : Int) ^ k ≠ 0 := Int.ne_of_gt (Int.pow_pos (by decide))
theorem chars_vals : ∀ {vs : List Value} {cs : List Nat}, Chars vs cs → ∃ l : List (Str × Tok), vs = strValues l ∧ l.map (·.1) = cs.map fun c => ⟨#[c]⟩
  | _, _, .nil => ⟨[], rfl, rfl⟩
  | _, _, .cons c t h => by
    obtain ⟨l, e1, e2⟩ := chars_vals h
    exact ⟨(⟨#[c]⟩, t) :: l, by rw [e1]; rfl, by rw [List.map_cons, e2]; rfl⟩
theorem join_signs : ∀ cs : List Nat, Str.join (Str.ofString "") (cs.map fun c => (⟨#[c]⟩ : Str)) = ⟨cs.toArray⟩
  | [] => rfl
  | [c] => rfl
  | c :: d :: r => by
    have ih := join_signs (d :: r)
    have e : Str.ofString "" = ⟨#[]⟩ := by decide
    show (⟨#[c]⟩ : Str) ++ Str.ofString "" ++ Str.join (Str.ofString "") ((d :: r).map fun c => (⟨#[c]⟩ : Str)) = _
    rw [ih, e]
    show (⟨#[c] ++ #[] ++ (d :: r).toArray⟩ : Str) = _
    simp
theorem sum_ones : ∀ cs : List Nat, ((cs.map fun c => (⟨#[c]⟩ : Str)).map (·.length)).sum = cs.length
  | [] => rfl
  | c :: r => by rw [List.map_cons, List.map_cons, List.sum_cons, sum_ones r, List.length_cons]; show 1 + r.length = _; omega
theorem join_chars {prog : Program} {w : World} {A : Around} {E : Value → Shared → Prop} {s : Shared} {ys : List Value} {cs : List Nat} {t : Tok} {D : Addr} {Q : Value → Shared → Prop} (hl : s.heap.IsList D ys.toArray) (hc : Chars ys cs) (hs : cs.length ≤ 1000)
    (h : ∀ t' k, Q (.str ⟨cs.toArray⟩ t') { s with toks := k }) : wpAny (model prog w) A (call (.builtin "str.join") [.str (Str.ofString "") t, .ref D]) Q E s := by
  obtain ⟨l, rfl, e⟩ := chars_vals hc
  refine SC.join hl e (joinOk_of_weight ?_ (by decide)) fun t' k => ?_
  · rw [sum_ones, List.length_map]; omega
  · have : Txt.join (Str.ofString "") (cs.map fun c => (⟨#[c]⟩ : Str)) = ⟨cs.toArray⟩ := (StrLaws.glued_eq_join _ _).trans (join_signs cs)
    rw [this]; exact h t' k
theorem strip_text (cs : List Nat) : Txt.lstripChars ⟨cs.toArray⟩ (Str.ofString "A") = ⟨(cs.dropWhile (· == 65)).toArray⟩ := by
  have e : Str.ofString "A" = ⟨#[65]⟩ := by decide
  have g : (⟨#[65]⟩ : Str).cps.contains = fun c => c == 65 := by
    funext c
    rw [Bool.eq_iff_iff]
    simp
  unfold Txt.lstripChars
  rw [e, g, PyProof.Rows.stripBy_eq]
  have h1 : stripHi (fun c => c == 65) false ⟨cs.toArray⟩ (stripLo (fun c => c == 65) true ⟨cs.toArray⟩) = cs.length := by simp [stripHi, Str.length]
  have h2 : stripLo (fun c => c == 65) true ⟨cs.toArray⟩ = (cs.takeWhile (· == 65)).length := by simp [stripLo]
  rw [h1, h2]
  have h3 := StrLaws.strSub_toList ⟨cs.toArray⟩ (cs.takeWhile (· == 65)).length cs.length
  have h4 : cs.drop (cs.takeWhile (· == 65)).length = cs.dropWhile (· == 65) := by
    have := List.drop_left (l₁ := cs.takeWhile (· == 65)) (l₂ := cs.dropWhile (· == 65))
    rwa [List.takeWhile_append_dropWhile] at this
  have h5 : (Builtin.Str.strSub ⟨cs.toArray⟩ (cs.takeWhile (· == 65)).length cs.length).cps.toList = cs.dropWhile (· == 65) := by
    rw [h3, h4, List.take_of_length_le]
    rw [← h4, List.length_drop]
    exact Nat.le_refl _
  exact Str.ext' (by rw [← Array.toList_inj, h5])
theorem strip_A {prog : Program} {w : World} {A : Around} {E : Value → Shared → Prop} {s : Shared} {cs : List Nat} {t u : Tok} {Q : Value → Shared → Prop} (hs : cs.length ≤ 1000)
    (h : ∀ t' k, Q (.str ⟨(cs.dropWhile (· == 65)).toArray⟩ t') { s with toks := k }) : wpAny (model prog w) A (call (.builtin "str.lstrip") [.str ⟨cs.toArray⟩ t, .str (Str.ofString "A") u]) Q E s :=
  SC.lstripChars (fun t' k => by rw [strip_text]; exact h t' k) (by show cs.toArray.size ≤ _; rw [sizeLine_eq, List.size_toArray]; omega)
theorem pow_py {x q : Int} {e : Nat} (hq : 0 < q ∧ q ≤ 16) (he : e ≤ 1000) : Builtin.divisionGoesByPylong x (q ^ e) = false := by
  refine PyProof.noPylong_of_log2 ?_
  rw [Int.natAbs_pow]
  have h1 : q.natAbs ^ e ≤ 16 ^ e := Nat.pow_le_pow_left (by omega) e
  have h2 : (16 : Nat) ^ e = 2 ^ (4 * e) := by rw [Nat.pow_mul]
  have h3 : 2 ^ (4 * e) < 2 ^ 9000 := Nat.pow_lt_pow_right (by decide) (by omega)
  have h0 : q.natAbs ^ e ≠ 0 := Nat.ne_of_gt (Nat.pow_pos (by omega))
  exact (Nat.log2_lt h0).mpr (by omega)
theorem cl_letters : ∀ (n : Int) (tn : Tok) (hn : 0 ≤ n ∧ n < 1048576), Cl 1 289 [.int n tn] [] [] (fun _ => True) (StrIs (letS n)) := by
  refine eps2 (ne2 ne_int ne_nat) ((?_ : ∀ a0 a1, At2 _ a0 a1) _ _)
  intros n tn
  refine At2.mk ?_
  intros hn
  k_with_none
  k_with "kne" => (refine neN ?_; (try dsimp only); first | exact Nat.ne_of_gt (by with_reducible assumption) | exact Nat.ne_of_lt (by with_reducible assumption) | with_reducible assumption | exact Ne.symm (by with_reducible assumption) | exact Nat.succ_ne_self _ | exact Ne.symm (Nat.succ_ne_self _) | (apply Nat.ne_of_gt; apply And.left; k_extra "krn"; done) | (apply Nat.ne_of_lt; apply And.left; k_extra "krn"; done) | (apply Nat.ne_of_gt; k_extra "krn"; done) | (apply Nat.ne_of_lt; k_extra "krn"; done) | k_extra "kd4" | (apply Ne.symm; k_extra "kd4") | omega)
  k_with "kd1" => first | with_reducible assumption | (apply And.left; with_reducible assumption) | (apply And.right; with_reducible assumption)
  k_with "kd2" => first | with_reducible assumption | (apply And.left; k_extra "kd1") | (apply And.right; k_extra "kd1")
  k_with "kd3" => first | with_reducible assumption | (apply And.left; k_extra "kd2") | (apply And.right; k_extra "kd2")
  k_with "kd4" => first | with_reducible assumption | (apply And.left; k_extra "kd3") | (apply And.right; k_extra "kd3")
  k_with "krn" => ((iterate 19 (first | done | with_reducible assumption | apply And.right)); done)
  k_with "omg" => first | exact Mine.room2 (by with_reducible assumption) rfl | exact Mine.units2 (by with_reducible assumption) cLine_is rfl | ((repeat (rename @Ne Nat _ _ => z9w; clear z9w)); (repeat (rename @Ne Nat _ _ ∧ _ => z9w; clear z9w)); (repeat (rename (@Ne Nat _ _ ∧ _) ∧ _ => z9w; clear z9w)); omega +splitDisjunctions)
  k_with "call builtin:str.lstrip" => (k_here; k_dflt (refine' strip_A ?hs ?_; (case hs => (simp only [letC, List.length_map]; decide))); intro _ _)
  k_with "binaryOp FloorDiv int int" => (k_here; (with_reducible show wpAny _ _ (binaryOp _ (Value.int _ _) (Value.int (16 ^ _) _)) _ _ _); refine floordiv_int (p16_ne _) ?_ (Or.inl (pow_py (by decide) (by omega))))
  k_with "eval ListComp" => ((with_reducible show wpAny _ _ (eval (Expr.ListComp _ _ _ _) _) _ _ _); refine Hold.of ?_; walk_say "BREAK")
  k_with "pyIter ref" => ((with_reducible show wpAny _ _ (pyIter (Value.ref _)) _ _ _); refine Hold.of ?_; walk_say "BREAK")
  w_top off
  unfold Cl
  k_fill
  refine eps23 ne_cx ((?_ : ∀ w p loose mean mg mb dp un gd cn cs a ccd cl outer A₀ base h₀ L m s Q E, At23 _ w p loose mean mg mb dp un gd cn cs a ccd cl outer A₀ base h₀ L m s Q E) _ _ _ _ _ _ _ _ _ _ _ _ _ _ _ _ _ _ _ _ _ _ _)
  intros w p loose mean mg mb dp un gd cn cs a ccd cl outer A₀ base h₀ L m s Q E
  refine At23.mk ?_
  intros B F X T hk N hpre hd hu hret
  k_dflt (refine' enter_cells ?k1 ?k2 ?k3 ?k4 ?k5 ?kA ?kF ?kK ?k6 ?k7 ?k8 ?k9 ?kB ?kD ?_ ?c2 ?c3 ?c4; (case kA => exact rfl); (case kF => exact rfl); (case kK => assumption); (case k1 => k_asm); (case k2 => k_asm); (case k3 => k_asm); (case k4 => k_asm); (case k5 => k_asm); (case k6 => k_is); (case k7 => k_is); (case k8 => ktr_room); (case k9 => first | exact BindsTo.of_eq rfl | exact binds_K (by k_in) rfl (by k_is) rfl rfl rfl); (case kB => exact rfl); (case kD => decide +kernel); (case c2 => exact rfl); (case c3 => exact rfl); (case c4 => exact rfl); k_whole; refine eps4 (ne4 ne_heap ne_nat ne_heap ne_nat) ((?_ : ∀ a b c d, At4 _ a b c d) _ _ _ _); intros g' L' h' tk'; refine At4.mk ?_; intros cells' FG' F' N' Y' B' X' T' l1 kG'; (try k_lt l1); k_cells Y'; (try simp only [List.cons_append, List.nil_append] at N'); (try dsimp only); (try k_fold))
  k_steps
  refine Hold.on ?_
  refine cp_comp (by with_reducible assumption) (by with_unfolding_all rfl) (by decide) rfl (by decide) ?_
  k_steps
  refine Hold.on ?_
  (rename Fr g' L' _ _ => F9)
  (rename News g' L' _ _ => N9)
  refine cp_tup (vs := [.int 4 _, .int 3 _, .int 2 _, .int 1 _, .int 0 _]) (fun i ys nx => nx = _ ∧ Chars ys ((letC n).take i)) rfl ⟨_, (N9 _ (.head _)).1, rfl, _, rfl⟩ (.inr ⟨_, fun _ _ nx h => by rw [h.1]; exact .head _⟩) (Nat.le_of_ble_eq_true rfl) F9 N9 rfl rfl ⟨rfl, .nil⟩ ?turn ?done
  case turn =>
    clear F9 N9
    (repeat (rename News _ _ _ _ => z9; clear z9)); (repeat (rename Fr _ _ _ _ => z9; clear z9)); (repeat (rename IsRange _ _ _ _ _ _ _ _ => z9; clear z9)); (repeat (rename IntsAre _ _ => z9; clear z9))
    intro I i v ys nx oI C oC D m₂ h tk hp E' hv hj hadr hoC ha F5 N5 l1 l2 l3
    obtain ⟨rfl, hj⟩ := hj
    obtain ⟨k, t, rfl, hk⟩ := five_at hv
    k_steps
    (rename News g' L' _ _ => N7)
    refine CpEnd.intro _ (by with_reducible assumption) N7 (fun p hp => hp) rfl ⟨rfl, ?_⟩
    rw [letC_snoc hk]
    exact hj.snoc _ _
  case done =>
    clear F9 N9
    intro hp ys nx hj _
    obtain ⟨rfl, hj⟩ := hj
    intro D h tk F9 N9 o9
    k_steps
    refine join_chars ⟨_, (N9 _ (.head _)).1, rfl, _, rfl⟩ (show Chars ys (letC n) from hj) (by simp [letC]) fun t' k' => ?_
    (try dsimp only)
    (try k_fold)
    k_steps
    exact hret _ _ _ (fun b o e hb => Fr.keep (by with_reducible assumption) b o (kG' b o e hb)) ⟨_, rfl⟩
end Mine
-- Spl
namespace Mine
inductive StrsAre : List Value → List Str → Prop
  | nil : StrsAre [] []
  | cons {vs : List Value} {ts : List Str} (x : Str) (t : Tok) : StrsAre vs ts → StrsAre (.str x t :: vs) (x :: ts)
theorem StrsAre.snoc {vs : List Value} {ts : List Str} (h : StrsAre vs ts) (x : Str) (t : Tok) : StrsAre (vs ++ [.str x t]) (ts ++ [x]) := by
  induction h with
  | nil => exact .cons x t .nil
  | cons d u _ ih => exact .cons d u ih
theorem strs_vals : ∀ {vs : List Value} {ts : List Str}, StrsAre vs ts → ∃ l : List (Str × Tok), vs = strValues l ∧ l.map (·.1) = ts
  | _, _, .nil => ⟨[], rfl, rfl⟩
  | _, _, .cons x t h => by
    obtain ⟨l, e1, e2⟩ := strs_vals h
    exact ⟨(x, t) :: l, by rw [e1]; rfl, by rw [List.map_cons, e2]⟩
/-- texts glued by nothing -/
theorem join_strs {prog : Program} {w : World} {A : Around} {E : Value → Shared → Prop} {s : Shared} {ys : List Value} {ts : List Str} {t : Tok} {D : Addr} {Q : Value → Shared → Prop} (hl : s.heap.IsList D ys.toArray) (hc : StrsAre ys ts) (hs : (ts.map (·.length)).sum + ts.length ≤ 1048576)
    (h : ∀ t' k, Q (.str (Str.join (Str.ofString "") ts) t') { s with toks := k }) : wpAny (model prog w) A (call (.builtin "str.join") [.str (Str.ofString "") t, .ref D]) Q E s := by
  obtain ⟨l, rfl, e⟩ := strs_vals hc
  refine SC.join hl e (joinOk_of_weight hs (by decide)) fun t' k => ?_
  have : Txt.join (Str.ofString "") ts = Str.join (Str.ofString "") ts := StrLaws.glued_eq_join _ _
  rw [this]; exact h t' k
noncomputable def escC (cs : List Nat) : List Str := cs.map fun c => Str.ofString "\\" ++ ⟨#[c]⟩
/-- a word as it is spelled -/
noncomputable def spell (way : Int) (x : Str) : Str := if way = 1 then Str.ofString "\"" ++ x ++ Str.ofString "\"" else if way = 2 then Str.join (Str.ofString "") (escC x.cps.toList) else if way = 3 then Str.ofString "\"\\" ++ x ++ Str.ofString "\"" else x
theorem esc_sum : ∀ cs : List Nat, ((escC cs).map (·.length)).sum = 2 * cs.length
  | [] => rfl
  | c :: r => by
    have := esc_sum r
    unfold escC at this ⊢
    rw [List.map_cons, List.map_cons, List.sum_cons, this, List.length_cons]
    have e : (Str.ofString "\\" ++ (⟨#[c]⟩ : Str)).length = 2 := by
      rw [Str.length_append]
      rfl
    omega
theorem esc_snoc {x : Str} {i c : Nat} (h : x.cps[i]? = some c) : escC (x.cps.toList.take (i + 1)) = escC (x.cps.toList.take i) ++ [Str.ofString "\\" ++ ⟨#[c]⟩] := by
  have : x.cps.toList[i]? = some c := by simpa using h
  rw [List.take_add_one, this]
  simp [escC]
theorem cl_spelled : ∀ (x : Str) (tx : Tok) (way : Int) (tw : Tok) (hx : x.length < 100), Cl 1 294 [.str x tx, .int way tw] [] [] (fun _ => True) (StrIs (spell way x)) := by
  refine eps4 (ne4 ne_str ne_nat ne_int ne_nat) ((?_ : ∀ a0 a1 a2 a3, At4 _ a0 a1 a2 a3) _ _ _ _)
  intros x tx way tw
  refine At4.mk ?_
  intros hx
  k_with_none
  k_with "kne" => (refine neN ?_; (try dsimp only); first | exact Nat.ne_of_gt (by with_reducible assumption) | exact Nat.ne_of_lt (by with_reducible assumption) | with_reducible assumption | exact Ne.symm (by with_reducible assumption) | exact Nat.succ_ne_self _ | exact Ne.symm (Nat.succ_ne_self _) | (apply Nat.ne_of_gt; apply And.left; k_extra "krn"; done) | (apply Nat.ne_of_lt; apply And.left; k_extra "krn"; done) | (apply Nat.ne_of_gt; k_extra "krn"; done) | (apply Nat.ne_of_lt; k_extra "krn"; done) | k_extra "kd4" | (apply Ne.symm; k_extra "kd4") | omega)
  k_with "kd1" => first | with_reducible assumption | (apply And.left; with_reducible assumption) | (apply And.right; with_reducible assumption)
  k_with "kd2" => first | with_reducible assumption | (apply And.left; k_extra "kd1") | (apply And.right; k_extra "kd1")
  k_with "kd3" => first | with_reducible assumption | (apply And.left; k_extra "kd2") | (apply And.right; k_extra "kd2")
  k_with "kd4" => first | with_reducible assumption | (apply And.left; k_extra "kd3") | (apply And.right; k_extra "kd3")
  k_with "krn" => ((iterate 19 (first | done | with_reducible assumption | apply And.right)); done)
  k_with "omg" => first | exact Mine.room2 (by with_reducible assumption) rfl | exact Mine.units2 (by with_reducible assumption) cLine_is rfl | ((repeat (rename @Ne Nat _ _ => z9w; clear z9w)); (repeat (rename @Ne Nat _ _ ∧ _ => z9w; clear z9w)); (repeat (rename (@Ne Nat _ _ ∧ _) ∧ _ => z9w; clear z9w)); omega +splitDisjunctions)
  k_with "eval ListComp" => ((with_reducible show wpAny _ _ (eval (Expr.ListComp _ _ _ _) _) _ _ _); refine Hold.of ?_; walk_say "BREAK")
  k_with "pyIter str" => ((with_reducible show wpAny _ _ (pyIter (Value.str _ _)) _ _ _); refine Hold.of ?_; walk_say "BREAK")
  w_top off
  unfold Cl
  k_fill
  refine eps23 ne_cx ((?_ : ∀ w p loose mean mg mb dp un gd cn cs a ccd cl outer A₀ base h₀ L m s Q E, At23 _ w p loose mean mg mb dp un gd cn cs a ccd cl outer A₀ base h₀ L m s Q E) _ _ _ _ _ _ _ _ _ _ _ _ _ _ _ _ _ _ _ _ _ _ _)
  intros w p loose mean mg mb dp un gd cn cs a ccd cl outer A₀ base h₀ L m s Q E
  refine At23.mk ?_
  intros B F X T hk N hpre hd hu hret
  k_dflt (refine' code_defG ?k1 ?k2 ?k3 ?k4 ?k5 ?kA ?kF ?kK ?k6 ?k7 ?k8 ?k9 ?kB ?_ ?c2 ?c3 ?c4 ?c5; (case kA => exact rfl); (case kF => exact rfl); (case kK => assumption); (case k1 => k_asm); (case k2 => k_asm); (case k3 => k_asm); (case k4 => k_asm); (case k5 => k_asm); (case k6 => k_is); (case k7 => k_is); (case k8 => ktr_room); (case k9 => first | exact BindsTo.of_eq rfl | exact binds_K (by k_in) rfl (by k_is) rfl rfl rfl); (case c5 => decide); (case kB => exact locs rfl); (case c2 => exact rfl); (case c3 => exact rfl); (case c4 => exact rfl); k_whole; refine eps3 (ne3 ne_heap ne_nat ne_heap) ((?_ : ∀ a b c, At3 _ a b c) _ _ _); intros g' L' h'; refine At3.mk ?_; intros FG' F' N' B' X' T' kG'; (try dsimp only); (try k_fold))
  k_steps
  · exact hret _ _ _ (fun b o e hb => Fr.keep (by with_reducible assumption) b o (kG' b o e hb)) ⟨_, by unfold spell; rw [if_pos (by assumption)]⟩
  · refine Hold.on ?_
    refine cp_comp (by with_reducible assumption) (by with_unfolding_all rfl) (by decide) rfl (by decide) ?_
    k_steps
    refine Hold.on ?_
    (rename Fr g' L' _ _ => F9)
    refine cp_str (fun i ys nx => nx = _ ∧ StrsAre ys (escC (x.cps.toList.take i))) rfl (by rw [sizeLine_eq]; show x.length ≤ _; omega) F9 News.nil rfl rfl ⟨rfl, .nil⟩ ?turn ?done
    case turn =>
      clear F9
      (repeat (rename News _ _ _ _ => z9; clear z9)); (repeat (rename Fr _ _ _ _ => z9; clear z9)); (repeat (rename IsRange _ _ _ _ _ _ _ _ => z9; clear z9)); (repeat (rename IntsAre _ _ => z9; clear z9))
      intro I i v ys nx oI C oC D m₂ h tk hp E' hv hj hadr hoC ha F5 N5 l1 l2 l3
      obtain ⟨rfl, hj⟩ := hj
      obtain ⟨c, u, hc, rfl⟩ := hv
      have hL2 : (⟨#[c]⟩ : Str).length = 1 := rfl
      k_steps
      (rename News g' L' _ _ => N7)
      refine CpEnd.intro _ (by with_reducible assumption) N7 (fun p hp => hp) rfl ⟨rfl, ?_⟩
      rw [esc_snoc hc]
      exact hj.snoc _ _
    case done =>
      clear F9
      intro hp ys nx hj _
      obtain ⟨rfl, hj⟩ := hj
      intro D h tk F9 N9 o9
      k_steps
      have hj' : StrsAre ys (escC x.cps.toList) := by
        have e : x.cps.toList.take x.cps.size = x.cps.toList := List.take_of_length_le (by simp)
        rwa [e] at hj
      refine join_strs ⟨_, (N9 _ (.head _)).1, rfl, _, rfl⟩ hj' (by
        have : x.cps.toList.length = x.length := by simp [Str.length]
        rw [esc_sum]; simp only [escC, List.length_map]; omega) fun t' k' => ?_
      (try dsimp only)
      (try k_fold)
      k_steps
      exact hret _ _ _ (fun b o e hb => Fr.keep (by with_reducible assumption) b o (kG' b o e hb)) ⟨_, by unfold spell; rw [if_neg (by assumption), if_pos (by assumption)]⟩
  · exact hret _ _ _ (fun b o e hb => Fr.keep (by with_reducible assumption) b o (kG' b o e hb)) ⟨_, by unfold spell; rw [if_neg (by assumption), if_neg (by assumption), if_pos (by assumption)]⟩
  · exact hret _ _ _ (fun b o e hb => Fr.keep (by with_reducible assumption) b o (kG' b o e hb)) ⟨_, by unfold spell; rw [if_neg (by assumption), if_neg (by assumption), if_neg (by assumption)]⟩
end Mine
-- ForT
namespace Mine
section
variable {prog : Program} {w : World} {A : Around} {E : Value → Shared → Prop} {env : Env} {h₀ : Heap} {L : Addr} {m₀ : Str → Option Value} {s : Shared} {Q : Flow → Shared → Prop} {σ : Type}
/-- what holds between the turns of a loop -/
noncomputable def FTAt (h₀ : Heap) (L : Addr) (wr : List Addr) (St : Nat → Heap → Prop) (led : Nat → σ → Led) (mP : Nat → σ → (Str → Option Value) → Prop) (P : Nat → σ → Prop) (s : Shared) (i : Nat) (s₂ : Shared) : Prop :=
  ∃ c m h tk, s₂ = { s with heap := h, toks := tk } ∧ P i c ∧ mP i c m ∧ Fr h₀ L h m ∧ News h₀ L h (led i c) ∧ St i h ∧ ∀ b ∈ wr, ∀ q ∈ led i c, q.1 ≠ b
/-- what a turn's end must show -/
noncomputable def FTEnd (h₀ : Heap) (L : Addr) (own : Led) (led : Nat → σ → Led) (mP : Nat → σ → (Str → Option Value) → Prop) (P : Nat → σ → Prop) (s : Shared) (i : Nat) (s₂ : Shared) : Prop :=
  ∃ c m h tk, s₂ = { s with heap := h, toks := tk } ∧ P i c ∧ mP i c m ∧ Fr h₀ L h m ∧ News h₀ L h (own ++ led i c) ∧ ∀ p ∈ own, ∀ q ∈ led i c, q.1 ≠ p.1
noncomputable def FTTurn (h₀ : Heap) (L : Addr) (own : Led) (led : Nat → σ → Led) (mP : Nat → σ → (Str → Option Value) → Prop) (P : Nat → σ → Prop) (s : Shared) (i : Nat) (Q : Flow → Shared → Prop) (f : Flow) (s₂ : Shared) : Prop :=
  match f with
  | .next | .cont => FTEnd h₀ L own led mP P s i s₂
  | .brk => False
  | .ret v => Q (.ret v) s₂
theorem FTTurn.again {own : Led} {led : Nat → σ → Led} {mP : Nat → σ → (Str → Option Value) → Prop} {P : Nat → σ → Prop} {i : Nat} {s₂ : Shared} (h : FTEnd h₀ L own led mP P s i s₂) : FTTurn h₀ L own led mP P s i Q .next s₂ := h
theorem for_T {target : Expr} {body : List Stmt} {I : Addr} {fp wr : List Addr} {n : Nat} {P' Md : Nat → Value → Heap → Prop} {St : Nat → Heap → Prop} (led : Nat → σ → Led) (mP : Nat → σ → (Str → Option Value) → Prop) (P : Nat → σ → Prop) (c₀ : σ)
    (W : Itr prog w A target I fp wr n P' Md St) (F : Fr h₀ L s.heap m₀) (N : News h₀ L s.heap (led 0 c₀)) (hst : St 0 s.heap) (h0 : P 0 c₀) (hm0 : mP 0 c₀ m₀)
    (hwr : ∀ b ∈ wr, h₀.get? b = none ∧ L ≠ b ∧ ∀ q ∈ led 0 c₀, q.1 ≠ b)
    (hfp : ∀ b ∈ fp, b ∈ wr ∨ (∃ o, h₀.get? b = some o) ∨ ∃ o, ∀ i c, (b, o) ∈ led i c)
    (turn : ∀ (i : Nat) (c : σ) v own m h tk, i < n → P' i v h → P i c → mP i c m → own.map (·.1) = wr → Fr h₀ L h m → News h₀ L h (own ++ led i c) → (∀ b ∈ wr, ∀ q ∈ led i c, q.1 ≠ b) →
      wpAny (model prog w) A (assign target env v) (fun _ s₂ => wpAny (model prog w) A (execs body env) (FTTurn h₀ L own led mP P s (i + 1) Q) E s₂) E { s with heap := h, toks := tk })
    (done : ∀ (c : σ) m h tk, P n c → mP n c m → Fr h₀ L h m → News h₀ L h (led n c) → Q .next { s with heap := h, toks := tk })
    (hE : PassesOwn (model prog w) A env E) :
    codeAny (model prog w) A (.forLoop target (.ref I) body [] env) (fun r s' => match r with | .ok f => Q f s' | .error e => cameBackBy (model prog w) A env E e s') s := by
  have hLw : L ∉ wr := fun h => (hwr L h).2.1 rfl
  have old0 : ∀ b o, h₀.get? b = some o → b ∉ wr := fun b o e hb => by rw [(hwr b hb).1] at e; cases e
  refine codeAny_forLoop_any (fun k s' => ∃ i : Nat, k = n - i ∧ i ≤ n ∧ FTAt h₀ L wr St led mP P s i s') ?_ n ⟨0, rfl, Nat.zero_le _, c₀, m₀, _, s.toks, rfl, h0, hm0, F, N, hst, fun b hb => (hwr b hb).2.2⟩
  rintro k s' ⟨i, rfl, hi, c, m, h, tk, rfl, hp, hm, F', N', st, hI⟩
  have next : ∀ h' : Heap, (∀ b o, b ∉ wr → h.get? b = some o → h'.get? b = some o) → Fr h₀ L h' m ∧ News h₀ L h' (led i c) := fun h' hk =>
    ⟨⟨F'.ns.at' fun o e => hk _ o hLw e, fun b o e => hk b o (old0 b o e) (F'.keep b o e), F'.above⟩, fun q hq => ⟨hk _ _ (fun hb => hI _ hb q hq rfl) (N' q hq).1, (N' q hq).2⟩⟩
  by_cases e : i < n
  · refine W.t.item i _ _ _ e st fun v h₂ tk₂ hMd hk₂ => ?_
    refine W.t.go i v _ _ _ hMd fun h₃ hP st₃ hk₃ => ?_
    obtain ⟨F2, N2⟩ := next h₃ fun b o hb e => hk₃ b o hb (hk₂ b o hb e)
    obtain ⟨own, how, hown⟩ := W.own _ _ st₃
    have memw : ∀ p ∈ own, p.1 ∈ wr := fun p hp => how ▸ List.mem_map.mpr ⟨p, hp, rfl⟩
    have N3 : News h₀ L h₃ (own ++ led i c) := fun q hq => by
      rcases List.mem_append.mp hq with hq | hq
      · have hw := hwr _ (memw q hq)
        exact ⟨hown q hq, Ne.symm hw.2.1, hw.1⟩
      · exact N2 q hq
    refine wpAny_mono (wpAny_passesOwn hE (turn i c v own m h₃ _ e hP hp hm how F2 N3 hI)) (fun _ s₃ z => ?_) fun _ _ e => e
    refine wpAny_mono (wpAny_passesOwn hE z) (fun f s₄ z => ?_) fun _ _ e => e
    have fin : FTEnd h₀ L own led mP P s (i + 1) s₄ → ∃ k, k < n - i ∧ ∃ i : Nat, k = n - i ∧ i ≤ n ∧ FTAt h₀ L wr St led mP P s i s₄ := by
      rintro ⟨c', m', h', tk', rfl, hp', hm', F4, N4, hI'⟩
      refine ⟨n - (i + 1), by omega, i + 1, rfl, by omega, c', m', h', tk', rfl, hp', hm', F4, fun q hq => N4 q (List.mem_append_right _ hq), ?_, fun b hb q hq => ?_⟩
      · refine W.t.frame _ _ _ st₃ fun b hb o e => ?_
        rcases hfp b hb with hb | ⟨o', e'⟩ | ⟨o', hx⟩
        · obtain ⟨p, hp, rfl⟩ := List.mem_map.mp (how ▸ hb : b ∈ own.map (·.1))
          have z1 := hown p hp
          rw [e] at z1
          have z2 := (N4 p (List.mem_append_left _ hp)).1
          rw [z2, z1]
        · have z1 := F2.keep _ _ e'
          rw [e] at z1
          rw [F4.keep _ _ e', z1]
        · have z1 := (N2 (b, o') (hx _ _)).1
          have z2 := (N4 (b, o') (List.mem_append_right _ (hx _ _))).1
          dsimp only at z1 z2
          rw [e] at z1
          rw [z2, z1]
      · obtain ⟨p, hp, rfl⟩ := List.mem_map.mp (how ▸ hb : b ∈ own.map (·.1))
        exact hI' p hp q hq
    cases f with
    | ret v => exact z
    | brk => exact z.elim
    | next => exact fin z
    | cont => exact fin z
  · have : i = n := by omega
    subst this
    refine W.t.done _ _ _ st fun h' tk' hk => ?_
    obtain ⟨F2, N2⟩ := next h' hk
    exact wpAny_execs_nil (done c m h' tk' hp hm F2 N2)
/-- a loop over enumerate of a list -/
theorem for_enum {elts : List Expr} {x1} {tp : Pos} {body : List Stmt} {l : Addr} {vs : List Value} (led : Nat → σ → Led) (mP : Nat → σ → (Str → Option Value) → Prop) (P : Nat → σ → Prop) (c₀ : σ)
    (hh : A.handled = none) (hl : s.heap.IsList l vs.toArray) (hsrc : (∃ o, h₀.get? l = some o) ∨ ∃ o, ∀ i c, (l, o) ∈ led i c) (F : Fr h₀ L s.heap m₀) (N : News h₀ L s.heap (led 0 c₀)) (h0 : P 0 c₀) (hm0 : mP 0 c₀ m₀)
    (turn : ∀ (I T : Addr) (i : Nat) (c : σ) v t oE oI m h tk hp, vs[i]? = some v → IsTup h T #[.int i t, v] → P i c → mP i c m → Fr h₀ L h m → News h₀ L h ((I + 1, oE) :: (I, oI) :: led i c) → (∀ q ∈ led i c, q.1 ≠ I ∧ q.1 ≠ I + 1) →
      wpAny (model prog w) A (assign (.Tuple elts x1 tp) env (.ref T)) (fun _ s₂ => wpAny (model prog w) A (execs body env) (FTTurn h₀ L [(I + 1, oE), (I, oI)] led mP P { s with heap := hp } (i + 1) Q) E s₂) E { s with heap := h, toks := tk })
    (done : ∀ (c : σ) m h tk, P vs.length c → mP vs.length c m → Fr h₀ L h m → News h₀ L h (led vs.length c) → Q .next { s with heap := h, toks := tk })
    (hE : PassesOwn (model prog w) A env E) :
    wpAny (model prog w) A (call (.type "enumerate") [.ref l]) (fun xv s₁ => wpAny (model prog w) A (pyIter xv) (fun it s₂ => codeAny (model prog w) A (.forLoop (.Tuple elts x1 tp) it body [] env) (fun r s' => match r with | .ok f => Q f s' | .error e => cameBackBy (model prog w) A env E e s') s₂) E s₁) E s := by
  obtain ⟨lo, hlo, hlr⟩ := id hl
  have hlt : @LT.lt Nat _ l s.heap.objs.size := Heap.lt_size hlo
  have hLs : @LT.lt Nat _ L s.heap.objs.size := F.ns.lt
  refine call_enumerate_list hl fun h' hE' hI hsz' hk => ?_
  refine wpAny_pyIter_enum hE' ?_
  have W := (WalksT.enumerate (prog := prog) (w := w) (A := A) hh (s.heap.objs.size + 1) s.heap.objs.size l (Nat.succ_ne_self _) (Nat.ne_of_lt (Nat.lt_succ_of_lt hlt)) (Nat.ne_of_lt hlt) vs.toArray).toU
  refine for_T led mP P c₀ ⟨KTurns.ofWalksU W, fun s Q E => W.self 0 s Q E, ?own⟩ (F.keeps hk) (N.grown hk) ⟨⟨.none, hE'⟩, hI, hl.at fun o e => hk l o e⟩ h0 hm0 ?wr ?fp ?turn ?done hE
  case own =>
    rintro i h ⟨⟨old, he⟩, ⟨oi, hoi, hic, _⟩, _⟩
    have he' : ∃ oe : Obj, h.get? (s.heap.objs.size + 1) = some oe := ⟨_, he⟩
    obtain ⟨oe, h1⟩ := he'
    refine ⟨[(s.heap.objs.size + 1, oe), (s.heap.objs.size, oi)], rfl, fun p hp => ?_⟩
    rcases List.mem_cons.mp hp with rfl | hp
    · exact h1
    · rw [List.mem_singleton.mp hp]; exact hoi
  case wr =>
    intro b hb
    have hb' : b = s.heap.objs.size + 1 ∨ b = s.heap.objs.size := by simpa using hb
    rcases hb' with rfl | rfl
    · exact ⟨ktu_new F (Nat.le_add_right _ _), Nat.ne_of_lt (Nat.lt_succ_of_lt hLs), fun p hp => Nat.ne_of_lt (Nat.lt_succ_of_lt (Heap.lt_size (N p hp).1))⟩
    · exact ⟨ktu_new F (Nat.le_refl _), Nat.ne_of_lt hLs, fun p hp => Nat.ne_of_lt (Heap.lt_size (N p hp).1)⟩
  case fp =>
    intro b hb
    have hb' : b = s.heap.objs.size + 1 ∨ b = s.heap.objs.size ∨ b = l := by simpa using hb
    rcases hb' with rfl | rfl | rfl
    · exact .inl (by simp)
    · exact .inl (by simp)
    · exact .inr hsrc
  case turn =>
    rintro i c v own m h tk hi ⟨T, vals, rfl, ⟨t, x, hx, rfl⟩, hT⟩ hp hm how F' N' l3
    obtain ⟨o1, o2, rfl⟩ := own_two how
    refine turn s.heap.objs.size T i c x t o1 o2 m h tk h' (by simpa using hx) hT hp hm F' N' fun q hq => ⟨l3 _ ?_ q hq, l3 _ ?_ q hq⟩
    · exact .tail _ (.head _)
    · exact .head _
  case done =>
    intro c m h tk hp hm F' N'
    have e : vs.toArray.size = vs.length := List.size_toArray
    rw [e] at hp hm N'
    exact done c m h tk hp hm F' N'
end
end Mine
namespace Mine
section
variable {prog : Program} {w : World} {A : Around} {E : Value → Shared → Prop} {env : Env} {h₀ : Heap} {L : Addr} {m₀ : Str → Option Value} {s : Shared} {Q : Flow → Shared → Prop} {σ : Type}
/-- a loop over a tuple -/
theorem for_tup {target : Expr} {body : List Stmt} {l : Addr} {vs : List Value} (led : Nat → σ → Led) (mP : Nat → σ → (Str → Option Value) → Prop) (P : Nat → σ → Prop) (c₀ : σ)
    (hh : A.handled = none) (hl : s.heap.IsTuple l vs.toArray) (hsrc : (∃ o, h₀.get? l = some o) ∨ ∃ o, ∀ i c, (l, o) ∈ led i c) (F : Fr h₀ L s.heap m₀) (N : News h₀ L s.heap (led 0 c₀)) (h0 : P 0 c₀) (hm0 : mP 0 c₀ m₀)
    (turn : ∀ (I : Addr) (i : Nat) (c : σ) v oI m h tk hp, vs[i]? = some v → P i c → mP i c m → Fr h₀ L h m → News h₀ L h ((I, oI) :: led i c) → (∀ q ∈ led i c, q.1 ≠ I) →
      wpAny (model prog w) A (assign target env v) (fun _ s₂ => wpAny (model prog w) A (execs body env) (FTTurn h₀ L [(I, oI)] led mP P { s with heap := hp } (i + 1) Q) E s₂) E { s with heap := h, toks := tk })
    (done : ∀ (c : σ) m h tk, P vs.length c → mP vs.length c m → Fr h₀ L h m → News h₀ L h (led vs.length c) → Q .next { s with heap := h, toks := tk })
    (hE : PassesOwn (model prog w) A env E) :
    wpAny (model prog w) A (pyIter (.ref l)) (fun it s₂ => codeAny (model prog w) A (.forLoop target it body [] env) (fun r s' => match r with | .ok f => Q f s' | .error e => cameBackBy (model prog w) A env E e s') s₂) E s := by
  obtain ⟨lo, hlo, hlr⟩ := id hl
  have hlt : @LT.lt Nat _ l s.heap.objs.size := Heap.lt_size hlo
  refine wpAny_pyIter_tuple hl ?_
  have up : ∀ b o', s.heap.get? b = some o' → (s.heap.push { cls := .type "tuple_iterator", data := .fields #[.ref l, .int 0 0] }).get? b = some o' := fun b o' e => Heap.get?_push_of_some _ e
  have W := Walks.tuple (prog := prog) (w := w) (A := A) hh s.heap.objs.size l (Nat.ne_of_lt hlt) vs.toArray
  refine for_T led mP P c₀ ⟨KTurns.ofWalks W fun i v s Q E st q => letGo_tupleiter st.1 q, fun s Q E => W.self 0 s Q E, ?own⟩ (F.keeps up) (N.grown up) ⟨⟨_, Heap.get?_push_size _ rfl, rfl, rfl⟩, hl.at fun o e => up l o e⟩ h0 hm0 ?wr ?fp ?turn ?done hE
  case own =>
    intro i h st
    obtain ⟨o, e, _⟩ := st.1
    exact ⟨[(s.heap.objs.size, o)], rfl, fun p hp => by rw [List.mem_singleton.mp hp]; exact e⟩
  case wr =>
    intro b hb
    rw [List.mem_singleton.mp hb]
    exact ⟨next_is_new F, Nat.ne_of_lt F.ns.lt, fun p hp => Nat.ne_of_lt (Heap.lt_size (N p hp).1)⟩
  case fp =>
    intro b hb
    rcases List.mem_cons.mp hb with h | hb
    · exact .inl (by rw [h]; exact .head _)
    · rw [List.mem_singleton.mp hb]; exact .inr hsrc
  case turn =>
    intro i c v own m h tk hi hv hp hm how F' N' l3
    obtain ⟨o1, r1, e1, h1⟩ := own_cons how
    rw [e1, own_nil h1] at N' ⊢
    exact turn s.heap.objs.size i c v o1 m h tk _ (by simpa using hv) hp hm F' N' (l3 _ (.head _))
  case done =>
    intro c m h tk hp hm F' N'
    have e : vs.toArray.size = vs.length := List.size_toArray
    rw [e] at hp hm N'
    exact done c m h tk hp hm F' N'
end
end Mine
-- Cel
namespace Mine
theorem five_list : ∀ {ks : List Int}, ks.length = 5 → ∃ a b c d e, ks = [a, b, c, d, e]
  | [a, b, c, d, e], _ => ⟨a, b, c, d, e, rfl⟩
theorem ints_5 {vs : List Value} {a b c d e : Int} (h : IntsAre vs [a, b, c, d, e]) : ∃ t0 t1 t2 t3 t4, vs = [.int a t0, .int b t1, .int c t2, .int d t3, .int e t4] := by
  cases h with
  | cons _ t0 h => cases h with
    | cons _ t1 h => cases h with
      | cons _ t2 h => cases h with
        | cons _ t3 h => cases h with
          | cons _ t4 h => cases h; exact ⟨t0, t1, t2, t3, t4, rfl⟩
theorem cl_cells : ∀ (sc : Addr) (vs : List Value) (ns : List Int) (hi : IntsAre vs ns) (hn : ns.length ≤ 63), Cl 1 277 [.ref sc] [] [] (fun h => h.IsList sc vs.toArray) (fun v h h' => ∃ ks : List Int, ks.length = 5 ∧ (∀ k ∈ ks, 0 ≤ k ∧ k < 960) ∧ NewInts ks v h h') := by
  refine eps3 (ne3 ne_nat ne_vals (⟨[]⟩)) ((?_ : ∀ a0 a1 a2, At3 _ a0 a1 a2) _ _ _)
  intros sc vs ns
  refine At3.mk ?_
  intros hi
  intros hn
  k_with_none
  k_with "kne" => (refine neN ?_; (try dsimp only); first | exact Nat.ne_of_gt (by with_reducible assumption) | exact Nat.ne_of_lt (by with_reducible assumption) | with_reducible assumption | exact Ne.symm (by with_reducible assumption) | exact Nat.succ_ne_self _ | exact Ne.symm (Nat.succ_ne_self _) | (apply Nat.ne_of_gt; apply And.left; k_extra "krn"; done) | (apply Nat.ne_of_lt; apply And.left; k_extra "krn"; done) | (apply Nat.ne_of_gt; k_extra "krn"; done) | (apply Nat.ne_of_lt; k_extra "krn"; done) | k_extra "kd4" | (apply Ne.symm; k_extra "kd4") | omega)
  k_with "kd1" => first | with_reducible assumption | (apply And.left; with_reducible assumption) | (apply And.right; with_reducible assumption)
  k_with "kd2" => first | with_reducible assumption | (apply And.left; k_extra "kd1") | (apply And.right; k_extra "kd1")
  k_with "kd3" => first | with_reducible assumption | (apply And.left; k_extra "kd2") | (apply And.right; k_extra "kd2")
  k_with "kd4" => first | with_reducible assumption | (apply And.left; k_extra "kd3") | (apply And.right; k_extra "kd3")
  k_with "krn" => ((iterate 19 (first | done | with_reducible assumption | apply And.right)); done)
  k_with "omg" => first | exact Mine.room2 (by with_reducible assumption) rfl | exact Mine.units2 (by with_reducible assumption) cLine_is rfl | ((repeat (rename @Ne Nat _ _ => z9w; clear z9w)); (repeat (rename @Ne Nat _ _ ∧ _ => z9w; clear z9w)); (repeat (rename (@Ne Nat _ _ ∧ _) ∧ _ => z9w; clear z9w)); omega +splitDisjunctions)
  k_with "exec For Tuple Call cons nil" => (k_here; (with_reducible show wpAny _ _ (exec (Stmt.For (Expr.Tuple _ _ _) (Expr.Call _ _ _ _) _ [] _) _) _ _ _); refine wpAny_For ?_ (fun _ => rfl))
  k_with "call type:enumerate" => ((with_reducible show wpAny _ _ (PySem.call (Value.type "enumerate") [Value.ref _] []) _ _ _); refine Hold.of ?_; walk_say "BREAK")
  w_top off
  unfold Cl
  k_fill
  refine eps23 ne_cx ((?_ : ∀ w p loose mean mg mb dp un gd cn cs a ccd cl outer A₀ base h₀ L m s Q E, At23 _ w p loose mean mg mb dp un gd cn cs a ccd cl outer A₀ base h₀ L m s Q E) _ _ _ _ _ _ _ _ _ _ _ _ _ _ _ _ _ _ _ _ _ _ _)
  intros w p loose mean mg mb dp un gd cn cs a ccd cl outer A₀ base h₀ L m s Q E
  refine At23.mk ?_
  intros B F X T hk N hpre hd hu hret
  k_dflt (refine' code_defG ?k1 ?k2 ?k3 ?k4 ?k5 ?kA ?kF ?kK ?k6 ?k7 ?k8 ?k9 ?kB ?_ ?c2 ?c3 ?c4 ?c5; (case kA => exact rfl); (case kF => exact rfl); (case kK => assumption); (case k1 => k_asm); (case k2 => k_asm); (case k3 => k_asm); (case k4 => k_asm); (case k5 => k_asm); (case k6 => k_is); (case k7 => k_is); (case k8 => ktr_room); (case k9 => first | exact BindsTo.of_eq rfl | exact binds_K (by k_in) rfl (by k_is) rfl rfl rfl); (case c5 => decide); (case kB => exact locs rfl); (case c2 => exact rfl); (case c3 => exact rfl); (case c4 => exact rfl); k_whole; refine eps3 (ne3 ne_heap ne_nat ne_heap) ((?_ : ∀ a b c, At3 _ a b c) _ _ _); intros g' L' h'; refine At3.mk ?_; intros FG' F' N' B' X' T' kG'; (try dsimp only); (try k_fold))
  have hl9 : g'.IsList sc vs.toArray := hpre.at fun o e => kG' _ o e (by simp)
  k_steps
  refine Hold.on ?_
  rename_i lc _ _ _ D ws _ F9 N9 hI _ _ lt
  have g9 : ∃ v0 : List Value, IntsAre v0 [31, 15, 17, 27, 6] ∧ News g' L' _ [(D, W.listOf ws.toArray 0), (lc, W.listOf v0.toArray 0)] := ⟨[_, _, _, _, _], .cons _ _ (.cons _ _ (.cons _ _ (.cons _ _ (.cons _ _ .nil)))), N9⟩
  obtain ⟨v0, i0, N8⟩ := g9
  clear N9
  (try dsimp only [qk])
  (try dsimp only [ek])
  clear qk ek
  (rename Heap => hZ)
  revert N8
  revert i0
  revert lt
  revert hI
  revert F9
  revert lc tk D ws hZ v0
  refine eps4 (ne4 ne_nat ne_nat ne_nat ne_vals) ((?_ : ∀ a0 a1 a2 a3, At4 _ a0 a1 a2 a3) _ _ _ _)
  intros lc tk D ws
  refine At4.mk ?_
  refine eps2 (ne2 ne_heap ne_vals) ((?_ : ∀ a0 a1, At2 _ a0 a1) _ _)
  intros hZ v0
  refine At2.mk ?_
  intros F9 hI lt i0 N8
  have hD8 := (N8 (D, _) (.head _)).1
  refine for_enum (fun (_ : Nat) (c : List Value × Nat) => [(D, W.listOf ws.toArray 0), (lc, W.listOf c.1.toArray c.2)]) (fun _ _ m => m (Str.ofString "cells") = some (.ref lc)) (fun _ c => ∃ ks : List Int, ks.length = 5 ∧ IntsAre c.1 ks) (v0, 0) rfl ⟨_, hD8, rfl, _, rfl⟩ (.inr ⟨_, fun _ _ => .head _⟩) F9 N8 ⟨[31, 15, 17, 27, 6], rfl, i0⟩ rfl ?turn ?done ?hE
  case hE => passes_own
  case done =>
    clear hD8 F9 N8
    intro c m h tk hP hm F5 N5
    obtain ⟨cv, ce⟩ := c
    obtain ⟨ks, h5, hk⟩ := hP
    obtain ⟨a, b, c, d, e, rfl⟩ := five_list h5
    obtain ⟨t0, t1, t2, t3, t4, rfl⟩ := ints_5 hk
    have em : m = fun y => if y = Str.ofString "cells" then some (.ref lc) else m y := by
      funext y
      by_cases y1 : y = Str.ofString "cells"
      · rw [if_pos y1, y1]; exact hm
      · rw [if_neg y1]
    rw [em] at F5
    clear em hm
    dsimp only at N5
    revert hk
    revert N5
    revert h5
    revert F5
    revert m h tk ce a b c d e t0 t1 t2 t3 t4
    refine eps8 (ne8 ne_map ne_heap ne_nat ne_nat ne_int ne_int ne_int ne_int) ((?_ : ∀ a0 a1 a2 a3 a4 a5 a6 a7, At8 _ a0 a1 a2 a3 a4 a5 a6 a7) _ _ _ _ _ _ _ _)
    intros m h tk ce a b c d
    refine At8.mk ?_
    refine eps4 (ne4 ne_int ne_nat ne_nat ne_nat) ((?_ : ∀ a0 a1 a2 a3, At4 _ a0 a1 a2 a3) _ _ _ _)
    intros e t0 t1 t2
    refine At4.mk ?_
    refine eps2 (ne2 ne_nat ne_nat) ((?_ : ∀ a0 a1, At2 _ a0 a1) _ _)
    intros t3 t4
    refine At2.mk ?_
    intros F5 h5 N5 hk
    k_steps
    (rename News g' L' _ _ => N7)
    refine hret _ _ _ (fun b o e hb => Fr.keep (by with_reducible assumption) b o (kG' b o e hb)) ⟨[_, _, _, _, _], rfl, ?_, newInts_of (vs := [.int _ _, .int _ _, .int _ _, .int _ _, .int _ _]) N7 (.head _) kG' (.cons _ _ (.cons _ _ (.cons _ _ (.cons _ _ (.cons _ _ .nil)))))⟩
    intro k hk
    have all : ∀ x : Int, 0 ≤ Int.fmod x 960 ∧ Int.fmod x 960 < 960 := fun x => ⟨Int.fmod_nonneg_of_pos x (by decide), Int.fmod_lt_of_pos x (by decide)⟩
    simp only [List.mem_cons, List.not_mem_nil, or_false] at hk
    rcases hk with rfl | rfl | rfl | rfl | rfl <;> exact all _
  case turn =>
    clear hD8 F9 N8
    intro I T i c v t oE oI m h tk hp hv hT hP hm F5 N5 hI5
    obtain ⟨cv, ce⟩ := c
    obtain ⟨ks, h5, hk⟩ := hP
    obtain ⟨a, b, c, d, e, rfl⟩ := five_list h5
    obtain ⟨t0, t1, t2, t3, t4, rfl⟩ := ints_5 hk
    obtain ⟨x, tx, hx, rfl⟩ := ints_at hI hv
    have hi15 : i < 15 := by
      have : i < (List.take 15 ns).length := by
        rcases Nat.lt_or_ge i (List.take 15 ns).length with q | q
        · exact q
        · rw [List.getElem?_eq_none q] at hx; cases hx
      simp only [List.length_take] at this
      omega
    have em : m = fun y => if y = Str.ofString "cells" then some (.ref lc) else m y := by
      funext y
      by_cases y1 : y = Str.ofString "cells"
      · rw [if_pos y1, y1]; exact hm
      · rw [if_neg y1]
    rw [em] at F5
    clear em hm hv hx
    obtain ⟨y8, y9⟩ := hI5 (lc, _) (.tail _ (.head _))
    have q1 : @Ne Nat lc I := y8
    have q2 : @Ne Nat lc (I + 1) := y9
    clear y8 y9
    have K9 := HideP.mk (hI5 (D, _) (.head _))
    clear hI5
    dsimp only at N5
    revert K9
    revert q2
    revert q1
    revert hi15
    revert hT
    revert hk
    revert N5
    revert h5
    revert F5
    revert I T i t oE oI m h tk hp ce a b c d e t0 t1 t2 t3 t4 x tx
    refine eps23 (ne23 ne_nat ne_nat ne_nat ne_nat ne_obj ne_obj ne_map ne_heap ne_nat ne_heap ne_nat ne_int ne_int ne_int ne_int ne_int ne_nat ne_nat ne_nat ne_nat ne_nat ne_int ne_nat) ((?_ : ∀ a0 a1 a2 a3 a4 a5 a6 a7 a8 a9 a10 a11 a12 a13 a14 a15 a16 a17 a18 a19 a20 a21 a22, At23 _ a0 a1 a2 a3 a4 a5 a6 a7 a8 a9 a10 a11 a12 a13 a14 a15 a16 a17 a18 a19 a20 a21 a22) _ _ _ _ _ _ _ _ _ _ _ _ _ _ _ _ _ _ _ _ _ _ _)
    intros I T i t oE oI m h tk hp ce a b c d e t0 t1 t2 t3 t4 x tx
    refine At23.mk ?_
    intros F5 h5 N5 hk hT hi15 q1 q2 K9
    (try k_fold)
    k_steps
    (rename News g' L' _ _ => N7)
    (rename Fr g' L' _ _ => F7)
    have g9 : ∃ (v1 : List Value) (e1 : Nat), (∃ ks : List Int, ks.length = 5 ∧ IntsAre v1 ks) ∧ News g' L' _ [(I + 1, oE), (I, oI), (D, W.listOf ws.toArray 0), (lc, W.listOf v1.toArray e1)] :=
      ⟨[_, _, _, _, _], _, ⟨[_, _, _, _, _], rfl, .cons _ _ (.cons _ _ (.cons _ _ (.cons _ _ (.cons _ _ .nil))))⟩, N7⟩
    obtain ⟨v1, e1, i1, N6⟩ := g9
    exact FTTurn.again ⟨(v1, e1), _, _, _, rfl, i1, rfl, F7, N6, fun p hp q hq => by
      have dI := K9.h.1
      have dJ := K9.h.2
      simp only [List.mem_cons, List.not_mem_nil, or_false] at hp hq
      rcases hp with rfl | rfl <;> rcases hq with rfl | rfl
      · exact dJ
      · exact q2
      · exact dI
      · exact q1⟩
end Mine
-- Pur
namespace Mine
noncomputable def QP (q : Int) : Prop := q = 2 ∨ q = 3 ∨ q = 5
/-- the figure that b times gives a, to the base q -/
noncomputable def ov (x y q : Int) : Int := (((List.range q.toNat).map fun k : Nat => (k : Int)).find? fun k => decide (Int.fmod (k * y - x) q = 0)).getD 0
theorem fm_red {q : Int} (hq : 0 < q) (k x y : Int) : Int.fmod (k * y - x) q = Int.fmod (k * Int.fmod y q - Int.fmod x q) q := by
  have h : 0 ≤ q := Int.le_of_lt hq
  rw [Int.fmod_eq_emod_of_nonneg _ h, Int.fmod_eq_emod_of_nonneg _ h, Int.fmod_eq_emod_of_nonneg _ h, Int.fmod_eq_emod_of_nonneg _ h]
  rw [Int.sub_emod, Int.mul_emod, Int.sub_emod (k * (y % q)), Int.mul_emod k (y % q), Int.emod_emod, Int.emod_emod]
theorem ov_red {q : Int} (hq : 0 < q) (x y : Int) : ov x y q = ov (Int.fmod x q) (Int.fmod y q) q := by
  unfold ov
  congr 2
  funext k
  rw [fm_red hq k x y]
theorem ov_small (n : Nat) (hn : n = 2 ∨ n = 3 ∨ n = 5) : ∀ r s : Fin n, r.val ≠ 0 →
    (0 ≤ ov (s.val : Int) (r.val : Int) n ∧ ov (s.val : Int) (r.val : Int) n < n) ∧ Int.fmod (ov (s.val : Int) (r.val : Int) n * r.val - s.val) n = 0 ∧ ∀ f : Fin n, Int.fmod ((f.val : Int) * r.val - s.val) n = 0 → (f.val : Int) = ov (s.val : Int) (r.val : Int) n := by
  rcases hn with rfl | rfl | rfl <;> decide +kernel
theorem ov_ok {x y q : Int} (hq : QP q) (hy : Int.fmod y q ≠ 0) : (0 ≤ ov x y q ∧ ov x y q < q) ∧ Int.fmod (ov x y q * y - x) q = 0 ∧ ∀ f, 0 ≤ f → f < q → Int.fmod (f * y - x) q = 0 → f = ov x y q := by
  have hq0 : 0 < q := by rcases hq with rfl | rfl | rfl <;> decide
  obtain ⟨n, rfl⟩ : ∃ n : Nat, q = n := ⟨q.toNat, by omega⟩
  have hn : n = 2 ∨ n = 3 ∨ n = 5 := by rcases hq with h | h | h <;> omega
  have b : ∀ z : Int, 0 ≤ Int.fmod z n ∧ Int.fmod z n < n := fun z => ⟨Int.fmod_nonneg_of_pos z hq0, Int.fmod_lt_of_pos z hq0⟩
  obtain ⟨s1, s2⟩ := b x
  obtain ⟨r1, r2⟩ := b y
  have key := ov_small n hn ⟨(Int.fmod y n).toNat, by omega⟩ ⟨(Int.fmod x n).toNat, by omega⟩ (by show (Int.fmod y n).toNat ≠ 0; omega)
  have e1 : (((Int.fmod y n).toNat : Nat) : Int) = Int.fmod y n := Int.toNat_of_nonneg r1
  have e2 : (((Int.fmod x n).toNat : Nat) : Int) = Int.fmod x n := Int.toNat_of_nonneg s1
  dsimp only at key
  rw [e1, e2, ← ov_red hq0] at key
  obtain ⟨k1, k2, k3⟩ := key
  rw [← fm_red hq0] at k2
  refine ⟨k1, k2, fun f h1 h2 h3 => ?_⟩
  have := k3 ⟨f.toNat, by omega⟩
  dsimp only at this
  rw [Int.toNat_of_nonneg h1, ← fm_red hq0] at this
  exact this h3
end Mine
namespace Mine
/-- units: no one is divided by q, all are small -/
noncomputable def UnitsOk (us : List Int) (q : Int) : Prop := ∀ k, k ≤ 3 → Int.fmod (us.getD k 0) q ≠ 0 ∧ -10 ≤ us.getD k 0 ∧ us.getD k 0 ≤ 10
/-- one of Newton's steps: the figure at the place t, and the number so far -/
noncomputable def nwStep (pv : Int → Int) (q e steep : Int) (t : Nat) (st : List Int × Int) : List Int × Int :=
  let fig := ov (-(Int.fdiv (pv st.2) (q ^ (e + t).toNat))) steep q
  (st.1 ++ [fig], st.2 + fig * q ^ t)
/-- Newton's figures for the side j = i + 1 with the fall f: e is the height of the side's end and j times f, less f -/
noncomputable def nwFigs (pv : Int → Int) (q : Int) (us hs : List Int) (i : Nat) (f : Nat) (n : Nat) : List Int × Int :=
  let a := ov (-(us.getD i 0)) (us.getD (i + 1) 0) q
  (List.range n).foldl (fun st k => nwStep pv q (hs.getD (i + 1) 0 + (i + 1) * f - f) (a ^ i * us.getD (i + 1) 0) (f + 1 + k) st) ([a], a * q ^ f)
theorem nwFigs_succ (pv : Int → Int) (q : Int) (us hs : List Int) (i f n : Nat) : nwFigs pv q us hs i f (n + 1) = nwStep pv q (hs.getD (i + 1) 0 + (i + 1) * f - f) ((ov (-(us.getD i 0)) (us.getD (i + 1) 0) q) ^ i * us.getD (i + 1) 0) (f + 1 + n) (nwFigs pv q us hs i f n) := by
  unfold nwFigs
  rw [List.range_succ, List.foldl_append]
  rfl
end Mine
namespace Mine
/-- the falls that are no less than nought and below the depth: each fall of the sides -/
noncomputable def inDepth (f : Int) (dep : Nat) : Bool := decide (0 ≤ f) && decide (f < dep)
/-- the figures that wait in the end, one list for each side of those from the first on -/
noncomputable def nwDue (pv : Int → Int) (q : Int) (us hs fs : List Int) (dep : Nat) (i : Nat) : List (Nat × List Int) :=
  (List.range i).filterMap fun k => if inDepth (fs.getD k 0) dep = true then some ((fs.getD k 0).toNat, (nwFigs pv q us hs k (fs.getD k 0).toNat (dep - ((fs.getD k 0).toNat + 1))).1) else none
theorem nwDue_succ (pv : Int → Int) (q : Int) (us hs fs : List Int) (dep i : Nat) : nwDue pv q us hs fs dep (i + 1) = nwDue pv q us hs fs dep i ++ (if inDepth (fs.getD i 0) dep = true then [((fs.getD i 0).toNat, (nwFigs pv q us hs i (fs.getD i 0).toNat (dep - ((fs.getD i 0).toNat + 1))).1)] else []) := by
  unfold nwDue
  rw [List.range_succ, List.filterMap_append]
  congr 1
  simp only [List.filterMap_cons, List.filterMap_nil]
  split <;> split <;> simp_all
end Mine
namespace Mine
theorem qpow_le {q : Int} (hq : QP q) {n : Nat} (hn : n ≤ 6) : 0 < q ^ n ∧ q ^ n ≤ 15625 := by
  have all : ∀ k : Fin 7, (0 < (2 : Int) ^ k.val ∧ (2 : Int) ^ k.val ≤ 15625) ∧ (0 < (3 : Int) ^ k.val ∧ (3 : Int) ^ k.val ≤ 15625) ∧ (0 < (5 : Int) ^ k.val ∧ (5 : Int) ^ k.val ≤ 15625) := by decide
  have a := all ⟨n, by omega⟩
  rcases hq with rfl | rfl | rfl
  · exact a.1
  · exact a.2.1
  · exact a.2.2
/-- what no power of q divides: products -/
theorem unit_mul {q a b : Int} (hq : QP q) (ha : Int.fmod a q ≠ 0) (hb : Int.fmod b q ≠ 0) : Int.fmod (a * b) q ≠ 0 := by
  have hq0 : 0 < q := by rcases hq with rfl | rfl | rfl <;> decide
  obtain ⟨n, rfl⟩ : ∃ n : Nat, q = n := ⟨q.toNat, by omega⟩
  have hn : n = 2 ∨ n = 3 ∨ n = 5 := by rcases hq with h | h | h <;> omega
  have all : ∀ r s : Fin n, r.val ≠ 0 → s.val ≠ 0 → Int.emod ((r.val : Int) * s.val) n ≠ 0 := by
    rcases hn with rfl | rfl | rfl <;> decide +kernel
  have hnn : (0 : Int) ≤ n := Int.le_of_lt hq0
  rw [Int.fmod_eq_emod_of_nonneg _ hnn] at ha hb ⊢
  have b1 := Int.emod_nonneg a (b := (n : Int)) (by omega)
  have b2 := Int.emod_lt_of_pos a hq0
  have b3 := Int.emod_nonneg b (b := (n : Int)) (by omega)
  have b4 := Int.emod_lt_of_pos b hq0
  have key := all ⟨(a % n).toNat, by omega⟩ ⟨(b % n).toNat, by omega⟩ (by show (a % n).toNat ≠ 0; omega) (by show (b % n).toNat ≠ 0; omega)
  dsimp only at key
  rw [Int.toNat_of_nonneg b1, Int.toNat_of_nonneg b3] at key
  rw [Int.mul_emod]
  exact key
theorem unit_pow {q a : Int} (hq : QP q) (ha : Int.fmod a q ≠ 0) : ∀ k : Nat, Int.fmod (a ^ k) q ≠ 0
  | 0 => by rw [Int.pow_zero]; rcases hq with rfl | rfl | rfl <;> decide
  | k + 1 => by rw [Int.pow_succ]; exact unit_mul hq (unit_pow hq ha k) ha
/-- the first figure is not nought -/
theorem ov_unit {q x y : Int} (hq : QP q) (hy : Int.fmod y q ≠ 0) (hx : Int.fmod x q ≠ 0) : Int.fmod (ov x y q) q ≠ 0 := by
  intro h0
  have hq0 : 0 < q := by rcases hq with rfl | rfl | rfl <;> decide
  have h := (ov_ok (x := x) hq hy).2.1
  have hn : 0 ≤ q := Int.le_of_lt hq0
  rw [Int.fmod_eq_emod_of_nonneg _ hn] at *
  rw [Int.sub_emod, Int.mul_emod, h0, Int.zero_mul, Int.zero_emod, Int.zero_sub] at h
  apply hx
  have := Int.dvd_neg.mp (Int.dvd_of_emod_eq_zero h)
  have e := Int.emod_eq_zero_of_dvd this
  rwa [Int.emod_emod] at e
theorem unit_neg {q x : Int} (hq : QP q) (hx : Int.fmod x q ≠ 0) : Int.fmod (-x) q ≠ 0 := by
  have hq0 : 0 < q := by rcases hq with rfl | rfl | rfl <;> decide
  have hn : 0 ≤ q := Int.le_of_lt hq0
  rw [Int.fmod_eq_emod_of_nonneg _ hn] at *
  intro h
  exact hx (Int.emod_eq_zero_of_dvd (Int.dvd_neg.mp (Int.dvd_of_emod_eq_zero h)))
end Mine
namespace Mine
theorem pow_bd {X : Int} (h : 0 ≤ X ∧ X < 15625) {i : Nat} (hi : i ≤ 3) : -(2 ^ 63) < X ^ i ∧ X ^ i < 2 ^ 63 := by
  obtain ⟨n, rfl⟩ : ∃ n : Nat, X = n := ⟨X.toNat, by omega⟩
  have h1 : n ^ i ≤ 15625 ^ i := Nat.pow_le_pow_left (by omega) i
  have h2 : 15625 ^ i ≤ 15625 ^ 3 := Nat.pow_le_pow_right (by decide) hi
  have h3 : ((n : Int) ^ i) = ((n ^ i : Nat) : Int) := by rw [Int.natCast_pow]
  rw [h3]
  have h4 : (15625 : Nat) ^ 3 = 3814697265625 := by decide
  omega
/-- the terms of a row at x -/
noncomputable def termsP (rs : List Int) (x : Int) : List Int := rs.zipIdx.map fun p => p.1 * x ^ p.2
theorem termsP_snoc {rs : List Int} {X x : Int} {i : Nat} (e : rs[i]? = some x) : (termsP rs X).take (i + 1) = (termsP rs X).take i ++ [x * X ^ i] := by
  have : (termsP rs X)[i]? = some (x * X ^ i) := by
    unfold termsP
    simp [e]
  rw [List.take_add_one, this]; rfl
/-- a step's number stays below the next power -/
theorem nw_bd {pv : Int → Int} {q : Int} {us hs : List Int} {i f : Nat} (hq : QP q) (hU : UnitsOk us q) (hi : i ≤ 2) : ∀ k, 0 ≤ (nwFigs pv q us hs i f k).2 ∧ (nwFigs pv q us hs i f k).2 < q ^ (f + 1 + k) ∧ ∀ d ∈ (nwFigs pv q us hs i f k).1, 0 ≤ d ∧ d < q := by
  have hq0 : 0 < q := by rcases hq with rfl | rfl | rfl <;> decide
  have a := (ov_ok (x := -(us.getD i 0)) hq (hU (i + 1) (by omega)).1).1
  have st : Int.fmod ((ov (-(us.getD i 0)) (us.getD (i + 1) 0) q) ^ i * us.getD (i + 1) 0) q ≠ 0 := unit_mul hq (unit_pow hq (ov_unit hq (hU (i + 1) (by omega)).1 (unit_neg hq (hU i (by omega)).1)) i) (hU (i + 1) (by omega)).1
  have stp : ∀ (x d p : Int), 0 ≤ x → x < p → 0 < p → 0 ≤ d → d < q → 0 ≤ x + d * p ∧ x + d * p < p * q := fun x d p h1 h2 h3 h4 h5 => by
    have m1 : 0 ≤ d * p := Int.mul_nonneg h4 (Int.le_of_lt h3)
    have m2 : (d + 1) * p ≤ q * p := Int.mul_le_mul_of_nonneg_right (by omega) (Int.le_of_lt h3)
    rw [Int.add_mul, Int.one_mul, Int.mul_comm q p] at m2
    constructor <;> omega
  intro k
  induction k with
  | zero =>
    have p := Int.pow_pos (n := q) (m := f) hq0
    have := stp 0 (ov (-(us.getD i 0)) (us.getD (i + 1) 0) q) (q ^ f) (Int.le_refl 0) p p a.1 a.2
    rw [Int.zero_add] at this
    refine ⟨this.1, ?_, fun d hd => ?_⟩
    · rw [Nat.add_zero, Int.pow_succ]; exact this.2
    · rw [List.mem_singleton.mp hd]; exact a
  | succ k ih =>
    rw [nwFigs_succ]
    have p := Int.pow_pos (n := q) (m := f + 1 + k) hq0
    have o := (ov_ok (x := -(Int.fdiv (pv (nwFigs pv q us hs i f k).2) (q ^ (hs.getD (i + 1) 0 + (i + 1) * f - f + ((f + 1 + k : Nat) : Int)).toNat))) hq st).1
    have := stp _ _ (q ^ (f + 1 + k)) ih.1 ih.2.1 p o.1 o.2
    refine ⟨this.1, ?_, fun d hd => ?_⟩
    · rw [← Nat.add_assoc, Int.pow_succ]; exact this.2
    · rcases List.mem_append.mp hd with hd | hd
      · exact ih.2.2 d hd
      · rw [List.mem_singleton.mp hd]; exact o
end Mine
namespace Mine
theorem st_bd {a u : Int} {i : Nat} (ha : 0 ≤ a ∧ a ≤ 5) (hi : i ≤ 2) (hu : -10 ≤ u ∧ u ≤ 10) : -1000000 < a ^ i * u ∧ a ^ i * u < 1000000 := by
  obtain ⟨n, rfl⟩ : ∃ n : Nat, a = n := ⟨a.toNat, by omega⟩
  have h1 : n ^ i ≤ 25 := Nat.le_trans (Nat.pow_le_pow_left (show n ≤ 5 by omega) i) (Nat.le_trans (Nat.pow_le_pow_right (by decide) hi) (by decide))
  have h3 : ((n : Int) ^ i) = ((n ^ i : Nat) : Int) := by rw [Int.natCast_pow]
  rw [h3]
  generalize n ^ i = m at h1
  have h4 : ((m : Int) * u).natAbs ≤ 25 * 10 := by
    rw [Int.natAbs_mul]
    exact Nat.mul_le_mul (by omega) (by omega)
  omega
/-- heights are small -/
noncomputable def HsOk (hs : List Int) : Prop := ∀ k, k ≤ 3 → 0 ≤ hs.getD k 0 ∧ hs.getD k 0 ≤ 8
end Mine
namespace Mine
theorem nw_len (pv : Int → Int) (q : Int) (us hs : List Int) (i f : Nat) : ∀ k, (nwFigs pv q us hs i f k).1.length = k + 1
  | 0 => rfl
  | k + 1 => by rw [nwFigs_succ]; show (_ ++ [_]).length = _; rw [List.length_append, nw_len pv q us hs i f k]; rfl
end Mine
-- Nw
namespace Mine
noncomputable def TupObj (vs : List Value) (o : Obj) : Prop := o.cls = .type "tuple" ∧ ∃ n, o.data = .seq vs.toArray n
theorem map_put {m : Str → Option Value} {x : Str} {v : Value} (h : m x = some v) : m = fun y => if y = x then some v else m y := by
  funext y
  by_cases e : y = x
  · rw [if_pos e, e, h]
  · rw [if_neg e]
theorem take_map_snoc {α β : Type} {f : α → β} {l : List α} {i : Nat} {x : α} (e : l[i]? = some x) : (l.map f).take (i + 1) = (l.map f).take i ++ [f x] := by
  have : (l.map f)[i]? = some (f x) := by simp [e]
  rw [List.take_add_one, this]; rfl
theorem StrsAre.length : ∀ {vs : List Value} {ts : List Str}, StrsAre vs ts → vs.length = ts.length
  | _, _, .nil => rfl
  | _, _, .cons _ _ h => by rw [List.length_cons, List.length_cons, h.length]
theorem due_len (pv : Int → Int) (q : Int) (us hs fs : List Int) (dep i : Nat) : (nwDue pv q us hs fs dep i).length ≤ i := by
  have := List.length_filterMap_le (fun k => if inDepth (fs.getD k 0) dep = true then some ((fs.getD k 0).toNat, (nwFigs pv q us hs k (fs.getD k 0).toNat (dep - ((fs.getD k 0).toNat + 1))).1) else none) (List.range i)
  rw [List.length_range] at this
  exact this
/-- a new list of these texts -/
noncomputable def NewStrs (ks : List Str) (v : Value) (h h' : Heap) : Prop := ∃ (l : Addr) (vs : List Value) (ep : Nat), v = .ref l ∧ StrsAre vs ks ∧ h'.get? l = some (W.listOf vs.toArray ep) ∧ h.get? l = none
theorem newStrs_of {ks : List Str} {g h h' : Heap} {L l : Addr} {vs : List Value} {ep : Nat} {news : Led} (N : News g L h' news) (hm : (l, W.listOf vs.toArray ep) ∈ news) (k : GSub h g []) (i : StrsAre vs ks) : NewStrs ks (.ref l) h h' := by
  refine ⟨l, vs, ep, rfl, i, (N _ hm).1, ?_⟩
  rcases hh : h.get? l with _ | o
  · rfl
  · have := k _ _ hh (by simp)
    rw [(N _ hm).2.2] at this; cases this
structure NwI where
  fv : List Value
  fe : Nat
  oc : Obj
structure NwS where
  dv : List Value
  de : Nat
  oc : Obj
/-- a polynomial's value as the sum reckons it -/
noncomputable def pvS (r0 r1 r2 r3 x : Int) : Int := (termsP [r0, r1, r2, r3] x).sum
noncomputable def dueW (p : Nat × List Int) : Str := Str.ofString "B" ++ ⟨(List.replicate p.1 65).toArray⟩ ++ ⟨(p.2.map fun d => 65 + d.toNat).toArray⟩
theorem tup3 {g h : Heap} {L I T1 T2 T3 TT : Addr} {oI p0 p1 p2 p3 : Obj} {r : Led} {i : Nat} {v : Value} {f0 f1 f2 : Int} (hv : ([.ref T1, .ref T2, .ref T3] : List Value)[i]? = some v) (N : News g L h ((I, oI) :: (TT, p0) :: (T3, p3) :: (T2, p2) :: (T1, p1) :: r))
    (y1 : ∃ t t', TupObj [.int 1 t, .int f0 t'] p1) (y2 : ∃ t t', TupObj [.int 2 t, .int f1 t'] p2) (y3 : ∃ t t', TupObj [.int 3 t, .int f2 t'] p3) : ∃ T t t', v = .ref T ∧ IsTup h T #[.int ((i : Int) + 1) t, .int ([f0, f1, f2].getD i 0) t'] ∧ i < 3 := by
  rcases i with _ | _ | _ | i
  · obtain ⟨t, t', c, n, d⟩ := y1
    exact ⟨T1, t, t', by simpa using hv.symm, ⟨p1, (N (T1, p1) (List.mem_of_getElem? (i := 4) rfl)).1, c, n, d⟩, by omega⟩
  · obtain ⟨t, t', c, n, d⟩ := y2
    exact ⟨T2, t, t', by simpa using hv.symm, ⟨p2, (N (T2, p2) (List.mem_of_getElem? (i := 3) rfl)).1, c, n, d⟩, by omega⟩
  · obtain ⟨t, t', c, n, d⟩ := y3
    exact ⟨T3, t, t', by simpa using hv.symm, ⟨p3, (N (T3, p3) (List.mem_of_getElem? (i := 2) rfl)).1, c, n, d⟩, by omega⟩
  · simp at hv
noncomputable def dueL0 (dep : Nat) : List Str := [Str.ofString "B" ++ ⟨(List.replicate dep 65).toArray⟩]
noncomputable def dueL (pv : Int → Int) (q : Int) (us hs fs : List Int) (dep i : Nat) : List Str := dueL0 dep ++ (nwDue pv q us hs fs dep i).map dueW
theorem dueL_yes (pv : Int → Int) (q : Int) (us hs : List Int) {fs : List Int} {dep i : Nat} (h : inDepth (fs.getD i 0) dep = true) : dueL pv q us hs fs dep (i + 1) = dueL pv q us hs fs dep i ++ [dueW ((fs.getD i 0).toNat, (nwFigs pv q us hs i (fs.getD i 0).toNat (dep - ((fs.getD i 0).toNat + 1))).1)] := by
  unfold dueL
  rw [nwDue_succ, if_pos h, List.map_append, List.append_assoc]
  rfl
theorem dueL_no (pv : Int → Int) (q : Int) (us hs : List Int) {fs : List Int} {dep i : Nat} (h : inDepth (fs.getD i 0) dep = false) : dueL pv q us hs fs dep (i + 1) = dueL pv q us hs fs dep i := by
  unfold dueL
  rw [nwDue_succ, if_neg (by rw [h]; exact Bool.false_ne_true), List.append_nil]
theorem nw_apart {I TT T3 T2 T1 ld c : Addr} {oI p0 p3 p2 p1 x y x' y' : Obj} (h : ∀ q ∈ [(TT, p0), (T3, p3), (T2, p2), (T1, p1), (ld, x), (c, y)], q.1 ≠ I) : ∀ p ∈ [(I, oI)], ∀ q ∈ [(TT, p0), (T3, p3), (T2, p2), (T1, p1), (ld, x'), (c, y')], q.1 ≠ p.1 := by
  intro p hp q hq
  rw [List.mem_singleton.mp hp]
  simp only [List.mem_cons, List.not_mem_nil, or_false] at hq
  rcases hq with rfl | rfl | rfl | rfl | rfl | rfl
  · exact h _ (.head _)
  · exact h _ (List.mem_of_getElem? (i := 1) rfl)
  · exact h _ (List.mem_of_getElem? (i := 2) rfl)
  · exact h _ (List.mem_of_getElem? (i := 3) rfl)
  · exact h (ld, x) (List.mem_of_getElem? (i := 4) rfl)
  · exact h (c, y) (List.mem_of_getElem? (i := 5) rfl)
theorem cl_ov (x y q : Int) (tx ty tq : Tok) (hq : QP q) (hy : Int.fmod y q ≠ 0) (hb : -1000000 < y ∧ y < 1000000) : Cl 2 344 [.int x tx, .int y ty, .int q tq] [] [] (fun _ => True) (IntIs (ov x y q)) :=
  cl_over x y q tx ty tq (ov x y q) (by rcases hq with rfl | rfl | rfl <;> decide) hb (ov_ok hq hy).1 (ov_ok hq hy).2.1 (ov_ok hq hy).2.2
section
variable {prog : Program} {w : World} {A : Around} {E : Value → Shared → Prop} {s : Shared} {Q : Value → Shared → Prop} {t u : Tok}
theorem pow_nice {a n B : Int} {k : Nat} (ha : a = B) (hn : n = (k : Int)) (hk : k ≤ 1000) (hB : B.natAbs < 2 ^ 64) (h : ∀ t tk, Q (.int (B ^ k) t) { s with toks := tk }) : wpAny (model prog w) A (binaryOp .Pow (.int a t) (.int n u)) Q E s := by
  subst ha hn
  refine pow_int_small (Int.natCast_nonneg _) (by omega) hB ?_
  rw [Int.toNat_natCast]
  exact h _ _
theorem mul_nice {a b B C : Int} (ha : a = B) (hb : b = C) (hC : -(2 ^ 63) < C ∧ C < 2 ^ 63) (h : ∀ t tk, Q (.int (B * C) t) { s with toks := tk }) : wpAny (model prog w) A (binaryOp .Mult (.int a t) (.int b u)) Q E s := by
  subst ha hb
  exact mul_int (h _ _) (IntMulOk.of_right (intBits_le_64 (by omega) (by omega)))
theorem div_nice {a b B q : Int} {e : Nat} (ha : a = B) (hb : b = q ^ e) (hq : 0 < q ∧ q ≤ 16) (he : e ≤ 1000) (h : ∀ t tk, Q (.int (Int.fdiv B (q ^ e)) t) { s with toks := tk }) : wpAny (model prog w) A (binaryOp .FloorDiv (.int a t) (.int b u)) Q E s := by
  subst ha hb
  exact floordiv_int (pow_ne hq.1 e) (h _ _) (Or.inl (pow_py hq he))
end
theorem cl_newton : ∀ (lr lu lh lf : Addr) (r0 r1 r2 r3 u0 u1 u2 u3 h0 h1 h2 h3 f0 f1 f2 q : Int) (dep : Nat) (a0 a1 a2 a3 b0 b1 b2 b3 c0 c1 c2 c3 d0 d1 d2 tq td : Tok)
   (hd6 : dep ≤ 6) (hq : QP q) (hU : UnitsOk [u0, u1, u2, u3] q) (hH : HsOk [h0, h1, h2, h3]), Cl 3 349 [.ref lr, .ref lu, .ref lh, .ref lf, .int q tq, .int dep td] [] [] (fun h => h.IsList lr [Value.int r0 a0, .int r1 a1, .int r2 a2, .int r3 a3].toArray ∧ h.IsList lu [Value.int u0 b0, .int u1 b1, .int u2 b2, .int u3 b3].toArray
    ∧ h.IsList lh [Value.int h0 c0, .int h1 c1, .int h2 c2, .int h3 c3].toArray ∧ h.IsList lf [Value.int f0 d0, .int f1 d1, .int f2 d2].toArray) (NewStrs (dueL (pvS r0 r1 r2 r3) q [u0, u1, u2, u3] [h0, h1, h2, h3] [f0, f1, f2] dep 3)) := by
  refine eps8 (ne8 ne_nat ne_nat ne_nat ne_nat ne_int ne_int ne_int ne_int) ((?_ : ∀ a0 a1 a2 a3 a4 a5 a6 a7, At8 _ a0 a1 a2 a3 a4 a5 a6 a7) _ _ _ _ _ _ _ _)
  intros lr lu lh lf r0 r1 r2 r3
  refine At8.mk ?_
  refine eps8 (ne8 ne_int ne_int ne_int ne_int ne_int ne_int ne_int ne_int) ((?_ : ∀ a0 a1 a2 a3 a4 a5 a6 a7, At8 _ a0 a1 a2 a3 a4 a5 a6 a7) _ _ _ _ _ _ _ _)
  intros u0 u1 u2 u3 h0 h1 h2 h3
  refine At8.mk ?_
  refine eps8 (ne8 ne_int ne_int ne_int ne_int ne_nat ne_nat ne_nat ne_nat) ((?_ : ∀ a0 a1 a2 a3 a4 a5 a6 a7, At8 _ a0 a1 a2 a3 a4 a5 a6 a7) _ _ _ _ _ _ _ _)
  intros f0 f1 f2 q dep a0 a1 a2
  refine At8.mk ?_
  refine eps8 (ne8 ne_nat ne_nat ne_nat ne_nat ne_nat ne_nat ne_nat ne_nat) ((?_ : ∀ a0 a1 a2 a3 a4 a5 a6 a7, At8 _ a0 a1 a2 a3 a4 a5 a6 a7) _ _ _ _ _ _ _ _)
  intros a3 b0 b1 b2 b3 c0 c1 c2
  refine At8.mk ?_
  refine eps4 (ne4 ne_nat ne_nat ne_nat ne_nat) ((?_ : ∀ a0 a1 a2 a3, At4 _ a0 a1 a2 a3) _ _ _ _)
  intros c3 d0 d1 d2
  refine At4.mk ?_
  refine eps2 (ne2 ne_nat ne_nat) ((?_ : ∀ a0 a1, At2 _ a0 a1) _ _)
  intros tq td
  refine At2.mk ?_
  intros hd6
  intros hq
  intros hU
  intros hH
  k_with_none
  k_with "kne" => (refine neN ?_; (try dsimp only); first | exact Nat.ne_of_gt (by with_reducible assumption) | exact Nat.ne_of_lt (by with_reducible assumption) | with_reducible assumption | exact Ne.symm (by with_reducible assumption) | exact Nat.succ_ne_self _ | exact Ne.symm (Nat.succ_ne_self _) | (apply Nat.ne_of_gt; apply And.left; k_extra "krn"; done) | (apply Nat.ne_of_lt; apply And.left; k_extra "krn"; done) | (apply Nat.ne_of_gt; k_extra "krn"; done) | (apply Nat.ne_of_lt; k_extra "krn"; done) | k_extra "kd4" | (apply Ne.symm; k_extra "kd4") | omega)
  k_with "kd1" => first | with_reducible assumption | (apply And.left; with_reducible assumption) | (apply And.right; with_reducible assumption)
  k_with "kd2" => first | with_reducible assumption | (apply And.left; k_extra "kd1") | (apply And.right; k_extra "kd1")
  k_with "kd3" => first | with_reducible assumption | (apply And.left; k_extra "kd2") | (apply And.right; k_extra "kd2")
  k_with "kd4" => first | with_reducible assumption | (apply And.left; k_extra "kd3") | (apply And.right; k_extra "kd3")
  k_with "krn" => ((iterate 19 (first | done | with_reducible assumption | apply And.right)); done)
  k_with "omg" => first | exact Mine.room2 (by with_reducible assumption) rfl | exact Mine.units2 (by with_reducible assumption) cLine_is rfl | ((repeat (rename @Ne Nat _ _ => z9w; clear z9w)); (repeat (rename @Ne Nat _ _ ∧ _ => z9w; clear z9w)); (repeat (rename (@Ne Nat _ _ ∧ _) ∧ _ => z9w; clear z9w)); omega +splitDisjunctions)
  k_with "exec For Tuple Tuple cons nil" => (k_here; (with_reducible show wpAny _ _ (exec (Stmt.For (Expr.Tuple _ _ _) (Expr.Tuple _ _ _) _ [] _) _) _ _ _); refine wpAny_For ?_ (fun _ => rfl))
  k_with "exec For Name Call cons nil" => (k_here; (with_reducible show wpAny _ _ (exec (Stmt.For (Expr.Name _ _) (Expr.Call _ _ _ _) _ [] _) _) _ _ _); refine wpAny_For ?_ (fun _ => rfl))
  k_with "pyIter ref" => ((with_reducible show wpAny _ _ (pyIter (Value.ref _)) _ _ _); refine Hold.of ?_; walk_say "BREAK")
  k_with "binaryOp Mult str int" => (k_here; (with_reducible show wpAny _ _ (binaryOp _ (Value.str (Str.ofString "A") _) (Value.int _ _)) _ _ _); k_dflt (refine' mul_A ?hk ?hn ?_; (case hk => first | exact Int.zero_add _ | exact rfl); (case hn => omega)); intro _ _)
  k_with "binaryOp FloorDiv int int" => ((with_reducible show wpAny _ _ (binaryOp Operator.FloorDiv (Value.int _ _) (Value.int _ _)) _ _ _); refine Hold.of ?_; walk_say "BREAK")
  k_with "binaryOp Mult int int" => ((with_reducible show wpAny _ _ (binaryOp Operator.Mult (Value.int _ _) (Value.int _ _)) _ _ _); refine Hold.of ?_; walk_say "BREAK")
  k_with "binaryOp Pow int int" => ((with_reducible show wpAny _ _ (binaryOp Operator.Pow (Value.int _ _) (Value.int _ _)) _ _ _); refine Hold.of ?_; walk_say "BREAK")
  k_with "call type:enumerate" => ((with_reducible show wpAny _ _ (PySem.call (Value.type "enumerate") [Value.ref _] []) _ _ _); refine Hold.of ?_; walk_say "BREAK")
  k_with "eval ListComp" => ((with_reducible show wpAny _ _ (eval (Expr.ListComp _ _ _ _) _) _ _ _); refine Hold.of ?_; walk_say "BREAK")
  k_with "call ref" => ((with_reducible show wpAny _ _ (PySem.call (Value.ref 344) [Value.int _ _, Value.int _ _, Value.int _ _] []) _ _ _); refine Hold.of ?_; walk_say "BREAK")
  w_top off
  unfold Cl
  k_fill
  refine eps23 ne_cx ((?_ : ∀ w p loose mean mg mb dp un gd cn cs a ccd cl outer A₀ base h₀ L m s Q E, At23 _ w p loose mean mg mb dp un gd cn cs a ccd cl outer A₀ base h₀ L m s Q E) _ _ _ _ _ _ _ _ _ _ _ _ _ _ _ _ _ _ _ _ _ _ _)
  intros w p loose mean mg mb dp un gd cn cs a ccd cl outer A₀ base h₀ L m s Q E
  refine At23.mk ?_
  intros B F X T hk N hpre hd hu hret
  k_dflt (refine' enter_cells ?k1 ?k2 ?k3 ?k4 ?k5 ?kA ?kF ?kK ?k6 ?k7 ?k8 ?k9 ?kB ?kD ?_ ?c2 ?c3 ?c4; (case kA => exact rfl); (case kF => exact rfl); (case kK => assumption); (case k1 => k_asm); (case k2 => k_asm); (case k3 => k_asm); (case k4 => k_asm); (case k5 => k_asm); (case k6 => k_is); (case k7 => k_is); (case k8 => ktr_room); (case k9 => first | exact BindsTo.of_eq rfl | exact binds_K (by k_in) rfl (by k_is) rfl rfl rfl); (case kB => exact rfl); (case kD => decide +kernel); (case c2 => exact rfl); (case c3 => exact rfl); (case c4 => exact rfl); k_whole; refine eps4 (ne4 ne_heap ne_nat ne_heap ne_nat) ((?_ : ∀ a b c d, At4 _ a b c d) _ _ _ _); intros g' L' h' tk'; refine At4.mk ?_; intros cells' FG' F' N' Y' B' X' T' l1 kG'; (try k_lt l1); k_cells Y'; (try simp only [List.cons_append, List.nil_append] at N'); (try dsimp only); (try k_fold))
  have i1 : g'.IsList lr [Value.int r0 a0, .int r1 a1, .int r2 a2, .int r3 a3].toArray := hpre.1.at fun o e => kG' _ o e (by simp)
  have i2 : g'.IsList lu [Value.int u0 b0, .int u1 b1, .int u2 b2, .int u3 b3].toArray := hpre.2.1.at fun o e => kG' _ o e (by simp)
  have i3 : g'.IsList lh [Value.int h0 c0, .int h1 c1, .int h2 c2, .int h3 c3].toArray := hpre.2.2.1.at fun o e => kG' _ o e (by simp)
  have i4 : g'.IsList lf [Value.int f0 d0, .int f1 d1, .int f2 d2].toArray := hpre.2.2.2.at fun o e => kG' _ o e (by simp)
  have hq5 : 2 ≤ q ∧ q ≤ 5 := by rcases hq with rfl | rfl | rfl <;> decide
  have hL0 : (⟨(List.replicate dep 65).toArray⟩ : Str).length = dep := by simp [Str.length]
  k_steps
  refine Hold.on ?_
  rename_i ld _ o5 _ _ T1 _ o4 _ T2 _ o3 _ T3 _ o2 TT _ F9 N9 o1
  have g9 : ∃ (p0 p1 p2 p3 oc : Obj) (v0 : List Value) (e0 : Nat), TupObj [.ref T1, .ref T2, .ref T3] p0 ∧ (∃ t t', TupObj [.int 1 t, .int f0 t'] p1) ∧ (∃ t t', TupObj [.int 2 t, .int f1 t'] p2) ∧ (∃ t t', TupObj [.int 3 t, .int f2 t'] p3) ∧ (∃ x, oc.data = .cell x) ∧ StrsAre v0 (dueL0 dep) ∧
      News g' L' _ [(TT, p0), (T3, p3), (T2, p2), (T1, p1), (ld, W.listOf v0.toArray e0), (L' + 1, oc)] :=
    ⟨_, _, _, _, _, [_], _, ⟨rfl, _, rfl⟩, ⟨_, _, rfl, _, rfl⟩, ⟨_, _, rfl, _, rfl⟩, ⟨_, _, rfl, _, rfl⟩, ⟨_, by assumption⟩, .cons _ _ .nil, N9⟩
  obtain ⟨p0, p1, p2, p3, oc, v0, e0, y0, y1, y2, y3, yc, ys, N8⟩ := g9
  clear N9
  refine any_tok s _ rfl fun tkn => ?_
  (rename Heap => hD)
  revert N8
  revert F9
  revert ys
  revert yc
  revert y3
  revert y2
  revert y1
  revert y0
  revert o1
  revert o2
  revert o3
  revert o4
  revert o5
  revert ld T1 T2 T3 TT hD p0 p1 p2 p3 oc v0 e0 tkn
  refine eps8 (ne8 ne_nat ne_nat ne_nat ne_nat ne_nat ne_heap ne_obj ne_obj) ((?_ : ∀ a0 a1 a2 a3 a4 a5 a6 a7, At8 _ a0 a1 a2 a3 a4 a5 a6 a7) _ _ _ _ _ _ _ _)
  intros ld T1 T2 T3 TT hD p0 p1
  refine At8.mk ?_
  refine eps4 (ne4 ne_obj ne_obj ne_obj ne_vals) ((?_ : ∀ a0 a1 a2 a3, At4 _ a0 a1 a2 a3) _ _ _ _)
  intros p2 p3 oc v0
  refine At4.mk ?_
  refine eps2 (ne2 ne_nat ne_nat) ((?_ : ∀ a0 a1, At2 _ a0 a1) _ _)
  intros e0 tkn
  refine At2.mk ?_
  intros o5 o4 o3 o2 o1 y0 y1 y2 y3 yc ys F9 N8
  clear hL0
  (rename @LE.le Nat _ (_ + _) _ ∧ _ => z9; clear z9)
  have hD8 := (N8 (TT, p0) (.head _)).1
  refine for_tup (fun (_ : Nat) (c : NwS) => [(TT, p0), (T3, p3), (T2, p2), (T1, p1), (ld, W.listOf c.dv.toArray c.de), (L' + 1, c.oc)]) (fun _ _ m => m (Str.ofString "due") = some (.ref ld) ∧ m (Str.ofString "row") = some (.ref lr) ∧ m (Str.ofString "units") = some (.ref lu) ∧ m (Str.ofString "heights") = some (.ref lh) ∧ m (Str.ofString "prime") = some (.int q tq) ∧ m (Str.ofString "depth") = some (.int dep td)) (fun i c => StrsAre c.dv (dueL (pvS r0 r1 r2 r3) q [u0, u1, u2, u3] [h0, h1, h2, h3] [f0, f1, f2] dep i) ∧ ∃ x, c.oc.data = .cell x) ⟨v0, e0, oc⟩ rfl ⟨_, hD8, y0⟩ (.inr ⟨_, fun _ _ => .head _⟩) F9 N8 ⟨ys, yc⟩ ⟨rfl, rfl, rfl, rfl, rfl, rfl⟩ ?turn ?done ?hE
  case hE => passes_own
  case done =>
    clear hD8 F9 N8
    intro c m h tk hP hm F5 N5
    obtain ⟨dv, de, oc⟩ := c
    obtain ⟨hd9, xc, hc9⟩ := hP
    dsimp only at hd9 N5
    rw [map_put hm.1] at F5
    k_steps
    (rename News g' L' _ _ => N7)
    exact hret _ _ _ (fun b o e hb => Fr.keep (by with_reducible assumption) b o (kG' b o e hb)) (newStrs_of N7 (List.mem_of_getElem? (i := 4) rfl) kG' hd9)
  case turn =>
    clear hD8 F9 N8
    intro I i c v oI m h tk hp hv hP hm F5 N5 hI5
    obtain ⟨dv, de, oc⟩ := c
    obtain ⟨hd9, xc, hc9⟩ := hP
    dsimp only at hd9 hc9 N5 hI5
    obtain ⟨T, t1, t2, rfl, hT, hi3⟩ := tup3 hv N5 y1 y2 y3
    obtain ⟨w1, w2, w3, w4, w5, w6⟩ := hm
    rw [map_put w1] at F5
    rw [map_put w2] at F5
    rw [map_put w3] at F5
    rw [map_put w4] at F5
    rw [map_put w5] at F5
    rw [map_put w6] at F5
    clear hv y0 y1 y2 y3 w1 w2 w3 w4 w5 w6
    have qI : @Ne Nat (L' + 1) I := hI5 (L' + 1, oc) (List.mem_of_getElem? (i := 5) rfl)
    have qJ : @Ne Nat ld I := hI5 (ld, _) (List.mem_of_getElem? (i := 4) rfl)
    have K9 := HideP.mk hI5
    clear hI5
    generalize hf9 : [f0, f1, f2].getD i 0 = f at hT
    revert hT
    revert hf9
    revert K9
    revert qJ
    revert qI
    revert hi3
    revert hc9
    revert hd9
    revert N5
    revert F5
    revert I i oI m h tk hp dv de oc xc T t1 t2 f
    refine eps8 (ne8 ne_nat ne_nat ne_obj ne_map ne_heap ne_nat ne_heap ne_vals) ((?_ : ∀ a0 a1 a2 a3 a4 a5 a6 a7, At8 _ a0 a1 a2 a3 a4 a5 a6 a7) _ _ _ _ _ _ _ _)
    intros I i oI m h tk hp dv
    refine At8.mk ?_
    refine eps4 (ne4 ne_nat ne_obj (⟨none⟩) ne_nat) ((?_ : ∀ a0 a1 a2 a3, At4 _ a0 a1 a2 a3) _ _ _ _)
    intros de oc xc T
    refine At4.mk ?_
    refine eps3 (ne3 ne_nat ne_nat ne_int) ((?_ : ∀ a0 a1 a2, At3 _ a0 a1 a2) _ _ _)
    intros t1 t2 f
    refine At3.mk ?_
    intros F5 N5 hd9 hc9 hi3 qI qJ K9 hf9 hT
    (try k_fold)
    k_steps
    · refine Hold.on ?_
      (rename 0 ≤ f => hf0)
      (rename f < (dep : Int) => hf1)
      obtain ⟨n, rfl⟩ : ∃ n : Nat, f = n := ⟨f.toNat, by omega⟩
      have hnd : n < dep := by omega
      clear hf0 hf1
      have e1 : ((i : Int) + 1 - 1).toNat = i := by omega
      have e2 : ((i : Int) + 1).toNat = i + 1 := by omega
      rw [e1, e2]
      clear e1
      have hU1 := hU (i + 1) (by omega)
      k_dflt (refine' cl_pure (cl_ov _ _ _ _ _ _ hq hU1.1 ⟨by omega, by omega⟩) ?k1 ?k2 ?k3 ?k4 ?k5 ?k6 ?kp ?kd ?ku ?_)
      case k1 => k_asm
      case k2 => k_asm
      case k3 => k_asm
      case k4 => k_asm
      case k5 => first | exact rfl | assumption
      case k6 => k_asm
      case kp => trivial
      case kd => ktr_room
      case ku => ktr_units
      intro v9 h9 tk9 F9 N9 hp9
      obtain ⟨t9, hp9⟩ := hp9
      subst hp9
      have hA := (ov_ok (x := -[u0, u1, u2, u3].getD i 0) hq hU1.1).1
      generalize ha9 : ov (-[u0, u1, u2, u3].getD i 0) ([u0, u1, u2, u3].getD (i + 1) 0) q = a9 at hA ⊢
      (try dsimp only)
      (try k_fold)
      k_steps
      refine Hold.on ?_
      refine pow_nice (B := a9) (k := i) rfl (by omega) (by omega) (by omega) fun tA1 tB1 => ?_
      k_steps
      refine Hold.on ?_
      refine mul_nice (B := a9 ^ i) (C := [u0, u1, u2, u3].getD (i + 1) 0) rfl (by rw [e2]) ⟨by omega, by omega⟩ fun tA2 tB2 => ?_
      k_steps
      refine Hold.on ?_
      refine pow_nice (B := q) (k := n) rfl rfl (by omega) (by omega) fun tA3 tB3 => ?_
      k_steps
      refine Hold.on ?_
      have hqn := qpow_le hq (n := n) (by omega)
      refine mul_nice (B := a9) (C := q ^ n) rfl rfl ⟨by omega, by omega⟩ fun tA4 tB4 => ?_
      k_steps
      refine Hold.on ?_
      rename_i fl _ ofl _ _ _ _ _ hpA oX F' N' dX hpB tkB tB5 tB6 tB7 rg9 F7 N7 aS
      clear F' N'
      have hG0 : nwFigs (pvS r0 r1 r2 r3) q [u0, u1, u2, u3] [h0, h1, h2, h3] i n 0 = ([a9], a9 * q ^ n) := by rw [← ha9]; rfl
      have hU0 := hU i (by omega)
      have hSt : Int.fmod (a9 ^ i * [u0, u1, u2, u3].getD (i + 1) 0) q ≠ 0 := unit_mul hq (unit_pow hq (by rw [← ha9]; exact ov_unit hq hU1.1 (unit_neg hq hU0.1)) i) hU1.1
      have gI : ∃ (fv : List Value) (fe : Nat), IntsAre fv [a9] ∧ News g' L' _ [(fl, W.listOf fv.toArray fe), (I, oI), (TT, p0), (T3, p3), (T2, p2), (T1, p1), (ld, W.listOf dv.toArray de), (L' + 1, oX)] := ⟨[_], _, .cons _ _ .nil, N7⟩
      obtain ⟨fv, fe, if9, N8⟩ := gI
      clear N7
      refine any_tok s _ rfl fun tkn3 => ?_
      revert N8
      revert if9
      revert hSt
      revert hG0
      revert aS
      revert F7
      revert rg9
      revert dX
      revert hqn
      revert ofl
      revert hA
      revert ha9
      revert hnd
      revert hT
      revert hf9
      revert n a9 fl tA2 tA4 tB4 hpA oX hpB tB5 tB6 tB7 fv fe tkn3
      refine eps8 (ne8 ne_nat ne_int ne_nat ne_nat ne_nat ne_nat ne_heap ne_obj) ((?_ : ∀ a0 a1 a2 a3 a4 a5 a6 a7, At8 _ a0 a1 a2 a3 a4 a5 a6 a7) _ _ _ _ _ _ _ _)
      intros n a9 fl tA2 tA4 tB4 hpA oX
      refine At8.mk ?_
      refine eps4 (ne4 ne_heap ne_nat ne_nat ne_nat) ((?_ : ∀ a0 a1 a2 a3, At4 _ a0 a1 a2 a3) _ _ _ _)
      intros hpB tB5 tB6 tB7
      refine At4.mk ?_
      refine eps3 (ne3 ne_vals ne_nat ne_nat) ((?_ : ∀ a0 a1 a2, At3 _ a0 a1 a2) _ _ _)
      intros fv fe tkn3
      refine At3.mk ?_
      intros hf9 hT hnd ha9 hA ofl hqn dX rg9 F7 aS hG0 hSt if9 N8
      refine rng_for (dep - (n + 1)) (fun (_ : Nat) (c : NwI) => [(fl, W.listOf c.fv.toArray c.fe), (I, oI), (TT, p0), (T3, p3), (T2, p2), (T1, p1), (ld, W.listOf dv.toArray de), (L' + 1, c.oc)])
        (fun _ _ m => m (Str.ofString "due") = some (.ref ld) ∧ m (Str.ofString "row") = some (.ref lr) ∧ m (Str.ofString "units") = some (.ref lu) ∧ m (Str.ofString "heights") = some (.ref lh) ∧ m (Str.ofString "prime") = some (.int q tq) ∧ m (Str.ofString "depth") = some (.int dep td) ∧ m (Str.ofString "figures") = some (.ref fl) ∧ (∃ t, m (Str.ofString "steep") = some (.int (a9 ^ i * [u0, u1, u2, u3].getD (i + 1) 0) t)) ∧ (∃ t, m (Str.ofString "j") = some (.int ((i : Int) + 1) t)) ∧ (∃ t, m (Str.ofString "fall") = some (.int n t)))
        (fun k c => IntsAre c.fv (nwFigs (pvS r0 r1 r2 r3) q [u0, u1, u2, u3] [h0, h1, h2, h3] i n k).1 ∧ ∃ t, c.oc.data = .cell (some (.int (nwFigs (pvS r0 r1 r2 r3) q [u0, u1, u2, u3] [h0, h1, h2, h3] i n k).2 t)))
        ⟨fv, fe, oX⟩ rfl rg9 ?hs ?hn F7 N8 ?h0 ?hm ?turn ?done ?hE ?ht
      case hs => exact small_one (by omega) (by omega) (by omega) (by omega)
      case hn => rw [rangeSize_nat]; omega
      case h0 => rw [hG0]; exact ⟨if9, _, dX⟩
      case hm => exact ⟨rfl, rfl, rfl, rfl, rfl, rfl, rfl, ⟨_, rfl⟩, ⟨_, rfl⟩, ⟨_, rfl⟩⟩
      case hE => passes_own
      case ht => intro _ _; rfl
      case done =>
        clear F7 N8 rg9 dX
        intro c m h tk hP hm F5 N5
        obtain ⟨fv, fe, oX⟩ := c
        obtain ⟨if8, tX, dX⟩ := hP
        dsimp only at if8 dX N5
        obtain ⟨w1, w2, w3, w4, w5, w6, w7, wA, wB, ⟨tw0, w0⟩⟩ := hm
        clear wA wB
        rw [map_put w1] at F5
        rw [map_put w2] at F5
        rw [map_put w3] at F5
        rw [map_put w4] at F5
        rw [map_put w5] at F5
        rw [map_put w6] at F5
        rw [map_put w7] at F5
        rw [map_put w0] at F5
        clear w1 w2 w3 w4 w5 w6 w7 w0
        have hbd := nw_bd (pv := pvS r0 r1 r2 r3) (hs := [h0, h1, h2, h3]) (f := n) hq hU (show i ≤ 2 by omega) (dep - (n + 1))
        have hLn : (⟨(List.replicate n 65).toArray⟩ : Str).length = n := by simp [Str.length]
        revert hbd
        revert F5
        revert dX
        revert if8
        revert N5
        revert m h tk fv fe oX tX tw0
        refine eps8 (ne8 ne_map ne_heap ne_nat ne_vals ne_nat ne_obj ne_nat ne_nat) ((?_ : ∀ a0 a1 a2 a3 a4 a5 a6 a7, At8 _ a0 a1 a2 a3 a4 a5 a6 a7) _ _ _ _ _ _ _ _)
        intros m h tk fv fe oX tX tw0
        refine At8.mk ?_
        intros N5 if8 dX F5 hbd
        (try k_fold)
        k_steps
        refine Hold.on ?_
        refine cp_comp (by with_reducible assumption) (by with_unfolding_all rfl) (by decide) rfl (by decide) ?_
        k_steps
        refine Hold.on ?_
        (rename Fr g' L' _ _ => F8)
        (rename News g' L' _ _ => N8)
        have hD8 := (N8 (fl, _) (.head _)).1
        have hfl := if8.length
        rw [nw_len] at hfl
        refine cp_lst (fun i' ys nx => nx = _ ∧ Chars ys (((nwFigs (pvS r0 r1 r2 r3) q [u0, u1, u2, u3] [h0, h1, h2, h3] i n (dep - (n + 1))).1.map fun d => 65 + d.toNat).take i')) rfl ⟨_, hD8, rfl, _, rfl⟩ (.inr ⟨W.listOf fv.toArray fe, fun _ _ nx h => by rw [h.1]; exact .head _⟩) (by rw [sizeLine_eq]; omega) F8 N8 rfl rfl ⟨rfl, .nil⟩ ?turn9 ?done9
        case turn9 =>
          clear hD8 F8 N8
          intro I9 i9 v9 ys nx oI' oC C D9 m₂ h9 tk9 hp9 E9 hv hj hadr hoC ha F9 N9 l1 l2 l3
          obtain ⟨rfl, hj⟩ := hj
          obtain ⟨x9, t8, hx, rfl⟩ := ints_at if8 hv
          have hx9 := hbd.2.2 x9 (List.mem_of_getElem? hx)
          k_steps
          (rename News g' L' _ _ => N7)
          refine CpEnd.intro _ (by with_reducible assumption) N7 (fun p hp => hp) rfl ⟨rfl, ?_⟩
          have ex : (65 + x9).toNat = 65 + x9.toNat := by omega
          rw [take_map_snoc hx, ← ex]
          exact hj.snoc _ _
        case done9 =>
          clear hD8 F8 N8
          intro hp ys nx hj _
          obtain ⟨rfl, hj⟩ := hj
          intro D9 h9 tk9 F9 N9 o9
          k_steps
          have hfl9 : fv.length ≤ 7 := by omega
          have hj' : Chars ys ((nwFigs (pvS r0 r1 r2 r3) q [u0, u1, u2, u3] [h0, h1, h2, h3] i n (dep - (n + 1))).1.map fun d => 65 + d.toNat) := by
            rw [List.take_of_length_le (by rw [List.length_map, nw_len]; omega)] at hj
            exact hj
          clear hj
          refine join_chars ⟨_, (N9 _ (.head _)).1, rfl, _, rfl⟩ hj' (by rw [List.length_map, nw_len]; omega) fun tA9 tB9 => ?_
          have N10 := fun p hp => N9 p (.tail _ hp)
          have N10 : News g' L' h9 _ := N10
          clear N9
          have hL3 : (⟨((nwFigs (pvS r0 r1 r2 r3) q [u0, u1, u2, u3] [h0, h1, h2, h3] i n (dep - (n + 1))).1.map fun d => 65 + d.toNat).toArray⟩ : Str).length = dep - (n + 1) + 1 := by
            show Array.size _ = _
            rw [List.size_toArray, List.length_map, nw_len]
          have hdl : dv.length ≤ 10 := by
            have := hd9.length
            have h2 := due_len (pvS r0 r1 r2 r3) q [u0, u1, u2, u3] [h0, h1, h2, h3] [f0, f1, f2] dep i
            simp only [dueL, dueL0, List.length_append, List.length_cons, List.length_nil, List.length_map] at this
            omega
          (try dsimp only)
          (try k_fold)
          k_steps
          (rename News g' L' _ _ => N7)
          (rename Fr g' L' _ _ => F7)
          rw [List.push_toArray] at N7
          have hin : inDepth ([f0, f1, f2].getD i 0) dep = true := by
            rw [hf9]
            simp only [inDepth, Bool.and_eq_true, decide_eq_true_eq]
            omega
          obtain ⟨tk8, N6⟩ : ∃ tk8, News g' L' _ ((I, oI) :: (TT, p0) :: (T3, p3) :: (T2, p2) :: (T1, p1) :: (ld, W.listOf (dv ++ [Value.str (dueW (n, (nwFigs (pvS r0 r1 r2 r3) q [u0, u1, u2, u3] [h0, h1, h2, h3] i n (dep - (n + 1))).1)) tk8]).toArray (de + 1)) :: [(L' + 1, oX)]) := ⟨_, fun p hp => N7 p (.tail _ hp)⟩
          refine FTTurn.again ⟨⟨dv ++ [Value.str (dueW (n, (nwFigs (pvS r0 r1 r2 r3) q [u0, u1, u2, u3] [h0, h1, h2, h3] i n (dep - (n + 1))).1)) tk8], de + 1, oX⟩, _, _, _, rfl, ⟨?gW, _, dX⟩, ⟨rfl, rfl, rfl, rfl, rfl, rfl⟩, F7, N6, nw_apart K9.h⟩
          case gW =>
            have := dueL_yes (pvS r0 r1 r2 r3) q [u0, u1, u2, u3] [h0, h1, h2, h3] hin
            rw [hf9] at this
            dsimp only
            rw [this]
            exact hd9.snoc _ _
      case turn =>
        clear F7 N8 rg9 hd9 hc9 dX
        intro k c m t h tk hk hP hm F5 N5 hI5
        obtain ⟨fv, fe, oX⟩ := c
        obtain ⟨if8, tX, dX⟩ := hP
        dsimp only at if8 dX N5 hI5
        obtain ⟨w1, w2, w3, w4, w5, w6, w7, ⟨tw8, w8⟩, ⟨tw9, w9⟩, ⟨tw0, w0⟩⟩ := hm
        rw [map_put w1] at F5
        rw [map_put w2] at F5
        rw [map_put w3] at F5
        rw [map_put w4] at F5
        rw [map_put w5] at F5
        rw [map_put w6] at F5
        rw [map_put w7] at F5
        rw [map_put w8] at F5
        rw [map_put w9] at F5
        rw [map_put w0] at F5
        clear w1 w2 w3 w4 w5 w6 w7 w8 w9 w0
        refine assign_Name ?_
        have hbd := nw_bd (pv := pvS r0 r1 r2 r3) (hs := [h0, h1, h2, h3]) (f := n) hq hU (show i ≤ 2 by omega) k
        have hqk := qpow_le hq (n := n + 1 + k) (by omega)
        have hX9 : 0 ≤ (nwFigs (pvS r0 r1 r2 r3) q [u0, u1, u2, u3] [h0, h1, h2, h3] i n k).2 ∧ (nwFigs (pvS r0 r1 r2 r3) q [u0, u1, u2, u3] [h0, h1, h2, h3] i n k).2 < 15625 := ⟨hbd.1, by omega⟩
        generalize hXe : (nwFigs (pvS r0 r1 r2 r3) q [u0, u1, u2, u3] [h0, h1, h2, h3] i n k).2 = X at dX hX9
        revert hX9
        revert dX
        revert hXe
        revert hqk
        revert hbd
        revert F5
        revert if8
        revert hI5
        revert N5
        revert hk
        revert k m t h tk fv fe oX tX tw8 tw9 tw0 X
        refine eps8 (ne8 ne_nat ne_map ne_nat ne_heap ne_nat ne_vals ne_nat ne_obj) ((?_ : ∀ a0 a1 a2 a3 a4 a5 a6 a7, At8 _ a0 a1 a2 a3 a4 a5 a6 a7) _ _ _ _ _ _ _ _)
        intros k m t h tk fv fe oX
        refine At8.mk ?_
        refine eps4 (ne4 ne_nat ne_nat ne_nat ne_nat) ((?_ : ∀ a0 a1 a2 a3, At4 _ a0 a1 a2 a3) _ _ _ _)
        intros tX tw8 tw9 tw0
        refine At4.mk ?_
        refine eps_all (ne_int) ((?_ : ∀ a, AtE _ a) _)
        intros X
        refine AtE.mk ?_
        intros hk N5 hI5 if8 F5 hbd hqk hXe dX hX9
        (try k_fold)
        k_steps
        refine Hold.on ?_
        refine cp_comp (by with_reducible assumption) (by with_unfolding_all rfl) (by decide) rfl (by decide) ?_
        k_steps
        refine Hold.on ?_
        (rename Fr g' L' _ _ => F8)
        (rename News g' L' _ _ => N8)
        obtain ⟨olr, hlr, hlr2⟩ := id i1
        have il9 := i1.at fun o e => F8.keep lr o e
        refine cp_enum (fun i ys nx => nx = _ ∧ IntsAre ys ((termsP [r0, r1, r2, r3] X).take i)) rfl il9 (.inl ⟨olr, hlr⟩) (Nat.le_of_ble_eq_true rfl) rfl rfl rfl (by decide) F8 N8 ⟨rfl, .nil⟩ ?turn9 ?done9
        case turn9 =>
          clear il9 F8 N8 hlr hlr2
          intro I9 i9 v9 t9 ys nx oE oI' oC C D9 m₂ h9 tk9 hp9 E9 hv hj hadr hoC ha hb F9 N9 l1 l2 l3
          obtain ⟨rfl, hj⟩ := hj
          obtain ⟨x9, t8, hx, rfl⟩ := ints_at (hs := [r0, r1, r2, r3]) (.cons _ _ (.cons _ _ (.cons _ _ (.cons _ _ .nil)))) hv
          have hi4 : i9 ≤ 3 := by
            rcases Nat.lt_or_ge i9 4 with q1 | q1
            · omega
            · rw [List.getElem?_eq_none (by simpa using q1)] at hx; cases hx
          k_steps
          refine Hold.on ?_
          refine pow_nice (B := X) (k := i9) rfl rfl (by omega) (by omega) fun _ _ => ?_
          k_steps
          refine Hold.on ?_
          refine mul_nice rfl rfl (pow_bd hX9 hi4) fun _ _ => ?_
          k_steps
          (rename News g' L' _ _ => N7)
          refine CpEnd.intro _ (by with_reducible assumption) N7 (fun p hp => hp) rfl ⟨rfl, ?_⟩
          rw [termsP_snoc hx]
          exact ksk_snoc hj
        case done9 =>
          clear il9 F8 N8 hlr hlr2
          intro hp ys nx hj _
          obtain ⟨rfl, hj⟩ := hj
          intro D9 h9 tk9 F9 N9 o9
          have hj' : IntsAre ys (termsP [r0, r1, r2, r3] X) := hj
          clear hj
          k_steps
          refine Hold.on ?_
          refine mul_nice (B := (i : Int) + 1) (C := (n : Int)) rfl rfl ⟨by omega, by omega⟩ fun _ _ => ?_
          have hm9 : 0 ≤ ((i : Int) + 1) * n ∧ ((i : Int) + 1) * n ≤ 3 * n := ⟨Int.mul_nonneg (by omega) (by omega), Int.mul_le_mul_of_nonneg_right (by omega) (by omega)⟩
          have hH1 := hH (i + 1) (by omega)
          k_steps
          refine Hold.on ?_
          refine pow_nice (B := q) (k := ([h0, h1, h2, h3].getD (i + 1) 0 + (i + 1) * n - n + ((n + 1 + k : Nat) : Int)).toNat) rfl (by rw [e2]; omega) (by omega) (by omega) fun _ _ => ?_
          k_steps
          refine Hold.on ?_
          refine div_nice (B := pvS r0 r1 r2 r3 X) (q := q) (e := ([h0, h1, h2, h3].getD (i + 1) 0 + (i + 1) * n - n + ((n + 1 + k : Nat) : Int)).toNat) rfl rfl ⟨by omega, by omega⟩ (by omega) fun _ _ => ?_
          k_steps
          refine Hold.on ?_
          (rename News g' L' _ _ => N7)
          k_dflt (refine' cl_pure (N := fun p hp => N7 p (.tail _ hp)) (cl_ov _ _ _ _ _ _ hq hSt (st_bd ⟨hA.1, by omega⟩ (by omega) hU1.2)) ?k1 ?k2 ?k3 ?k4 ?k5 ?kp ?kd ?ku ?_)
          case k1 => k_asm
          case k2 => k_asm
          case k3 => k_asm
          case k4 => k_asm
          case k5 => first | exact rfl | assumption
          case kp => trivial
          case kd => ktr_room
          case ku => ktr_units
          intro v9 h9 tk9 F9 N9 hp9
          obtain ⟨t9, hp9⟩ := hp9
          subst hp9
          generalize hfig : ov (-(Int.fdiv (pvS r0 r1 r2 r3 X) (q ^ ([h0, h1, h2, h3].getD (i + 1) 0 + (i + 1) * n - n + ((n + 1 + k : Nat) : Int)).toNat))) (a9 ^ i * [u0, u1, u2, u3].getD (i + 1) 0) q = d9
          clear N7
          (try dsimp only)
          (try k_fold)
          have qF : @Ne Nat fl _ := hI5 (fl, _) (.head _)
          have qG : @Ne Nat (L' + 1) _ := hI5 (L' + 1, oX) (List.mem_of_getElem? (i := 7) rfl)
          have hfl : fv.length ≤ 7 := by have := if8.length; rw [nw_len] at this; omega
          k_steps
          refine Hold.on ?_
          refine pow_nice (B := q) (k := n + 1 + k) rfl (by omega) (by omega) (by omega) fun _ _ => ?_
          k_steps
          refine Hold.on ?_
          refine mul_nice (B := d9) (C := q ^ (n + 1 + k)) rfl rfl ⟨by omega, by omega⟩ fun _ _ => ?_
          k_steps
          have hstep : nwFigs (pvS r0 r1 r2 r3) q [u0, u1, u2, u3] [h0, h1, h2, h3] i n (k + 1) = ((nwFigs (pvS r0 r1 r2 r3) q [u0, u1, u2, u3] [h0, h1, h2, h3] i n k).1 ++ [d9], X + d9 * q ^ (n + 1 + k)) := by
            rw [nwFigs_succ]
            unfold nwStep
            dsimp only
            rw [hXe, ha9, hfig]
          (rename News g' L' _ _ => N7)
          (rename Fr g' L' _ _ => F7)
          (rename Obj.data _ = Data.cell _ => dN9)
          refine RngTurn.again ⟨⟨fv ++ [.int d9 _], fe + 1, _⟩, _, _, _, rfl, ?gQ, ⟨rfl, rfl, rfl, rfl, rfl, rfl, rfl, ⟨_, rfl⟩, ⟨_, rfl⟩, ⟨_, rfl⟩⟩, F7, N7, ?g3⟩
          case gQ => dsimp only; rw [hstep]; exact ⟨ksk_snoc if8, _, dN9⟩
          case g3 =>
            intro q9 hq9
            simp only [List.mem_cons, List.not_mem_nil, or_false] at hq9
            rcases hq9 with rfl | rfl | rfl | rfl | rfl | rfl | rfl | rfl
            · exact qF
            · exact hI5 _ (List.mem_of_getElem? (i := 1) rfl)
            · exact hI5 _ (List.mem_of_getElem? (i := 2) rfl)
            · exact hI5 _ (List.mem_of_getElem? (i := 3) rfl)
            · exact hI5 _ (List.mem_of_getElem? (i := 4) rfl)
            · exact hI5 _ (List.mem_of_getElem? (i := 5) rfl)
            · exact hI5 _ (List.mem_of_getElem? (i := 6) rfl)
            · exact qG
    · (rename ¬ f < (dep : Int) => hf1)
      have hin : inDepth ([f0, f1, f2].getD i 0) dep = false := by
        rw [hf9]
        simp only [inDepth, Bool.and_eq_false_iff, decide_eq_false_iff_not]
        exact .inr hf1
      (rename News g' L' _ _ => N7)
      (rename Fr g' L' _ _ => F7)
      exact FTTurn.again ⟨⟨dv, de, oc⟩, _, _, _, rfl, ⟨by dsimp only; rw [dueL_no _ _ _ _ hin]; exact hd9, xc, hc9⟩, ⟨rfl, rfl, rfl, rfl, rfl, rfl⟩, F7, N7, nw_apart K9.h⟩
    · (rename ¬ 0 ≤ f => hf1)
      have hin : inDepth ([f0, f1, f2].getD i 0) dep = false := by
        rw [hf9]
        simp only [inDepth, Bool.and_eq_false_iff, decide_eq_false_iff_not]
        exact .inl hf1
      (rename News g' L' _ _ => N7)
      (rename Fr g' L' _ _ => F7)
      exact FTTurn.again ⟨⟨dv, de, oc⟩, _, _, _, rfl, ⟨by dsimp only; rw [dueL_no _ _ _ _ hin]; exact hd9, xc, hc9⟩, ⟨rfl, rfl, rfl, rfl, rfl, rfl⟩, F7, N7, nw_apart K9.h⟩
end Mine
-- CompT
namespace Mine
open PyProof.Rows.LCg
section
variable {prog : Program} {w : World} {A : Around} {E : Value → Shared → Prop} {s : Shared} {h₀ : Heap} {L : Addr} {m : Str → Option Value} {env : Env}
theorem strIt_walks (hh : A.handled = none) (e it : Addr) (hei : e ≠ it) (x : Str) (t : Tok) : ∃ St : Nat → Heap → Prop, (∀ h, h.IsStrIter it (strIterType x) x t 0 → St 0 h) ∧ (∀ i h, St i h → ∃ o, h.get? it = some o) ∧
    WalksT prog w A e [e, it] [e, it] x.cps.size (fun i vals => ∃ t' x', (∃ c u, x.cps[i]? = some c ∧ x' = Value.str ⟨#[c]⟩ u) ∧ vals = #[.int i t', x']) (fun i h => (∃ old, IsEnum h e it i old) ∧ St i h) (fun i T h => (∃ x, IsEnumOut h e it ((i : Int) + 1) x T) ∧ St (i + 1) h ∧ T ≠ e ∧ T ≠ it) := by
  have side : e ∉ [it] := fun hm => hei (List.mem_singleton.mp hm)
  cases ha : x.cps.all (· < 128)
  · have D := Draws.strWide (prog := prog) (w := w) (A := A.in1) hh it x t
    exact ⟨_, fun h k => by simpa [strIterType, ha] using k, D.live, WalksT.enumerateD D e hei side (by simp)⟩
  · have D := Draws.strAscii (prog := prog) (w := w) (A := A.in1) hh it x t
    exact ⟨_, fun h k => by simpa [strIterType, ha] using k, D.live, WalksT.enumerateD D e hei side (by simp)⟩
/-- a block over enumerate of a text -/
theorem cp_enumS {elt : Expr} {a b : Str} {pa pb tp : Pos} {kk : Nat} {scope : Scope} {cl : List (Str × Addr)} {Fin : Shared → List Value → Led → Prop} {y : Str} {ty : Tok} (J : Nat → List Value → Led → Prop) {news : Led}
    (hh : A.handled = none) (hsz : y.cps.size ≤ sizeLine)
    (hkind : scope.kind = .function) (ha : scope.names.lookup a = some .local) (hb : scope.names.lookup b = some .local) (hab : a ≠ b) (F : Fr h₀ L s.heap m) (N : News h₀ L s.heap news) (hJ : J 0 [] news)
    (turn : ∀ (I : Addr) i c u t ys nx oE oI C oC D m₂ h tk hp (E' : Value → Shared → Prop), y.cps[i]? = some c → J i ys nx → nx.map (·.1) = news.map (·.1) → NsObj oC m₂ → m₂ a = some (.int i t) → m₂ b = some (.str ⟨#[c]⟩ u) → Fr h₀ L h m →
      News h₀ L h ((I + 1, oE) :: (I, oI) :: (C, oC) :: (D, lst ys) :: nx) → (∀ p ∈ nx, @LT.lt Nat _ p.1 I) → @LT.lt Nat _ (I + 1) D → @LT.lt Nat _ D C →
      wpAny (model prog w) A (eval elt (compEnvC scope cl C env)) (CpEnd h₀ L m { s with heap := hp } [(I + 1, oE), (I, oI)] C oC D (lst ys) (news.map (·.1)) (fun y nx' => J (i + 1) (ys ++ [y]) nx')) E' { s with heap := h, toks := tk })
    (done : ∀ hp ys nx, J y.cps.size ys nx → nx.map (·.1) = news.map (·.1) → Fin { s with heap := hp } ys nx) :
    wpAny (model prog w) A (call (.type "enumerate") [.str y ty]) (fun xv s₁ => wpAny (model prog w) A (pyIter xv) (fun it s₂ => BlockT prog w A h₀ L m env elt (.Tuple [.Name a pa, .Name b pb] kk tp) scope cl Fin it s₂) E s₁) E s := by
  have hLs : @LT.lt Nat _ L s.heap.objs.size := F.ns.lt
  refine call_enumerate_str fun h' hE hI hsz' hk => ?_
  refine wpAny_pyIter_enum hE ?_
  obtain ⟨St, st0, live, W⟩ := strIt_walks (prog := prog) (w := w) (A := A) hh (s.heap.objs.size + 1) s.heap.objs.size (Nat.succ_ne_self _) y ty
  refine ⟨s.heap.objs.size + 1, _, _, _, _, _, _, news, fun i m'' => ∃ t c u, y.cps[i]? = some c ∧ m'' a = some (.int i t) ∧ m'' b = some (.str ⟨#[c]⟩ u), J, rfl, ⟨KTurns.ofWalksU W.toU, fun s Q E => W.self 0 s Q E, ?own⟩, hsz, F.keeps hk, N.grown hk, ⟨⟨.none, hE⟩, st0 _ hI⟩, ?wr, ?fp, ?asg, hJ, ?turn, ?done⟩
  case own =>
    rintro i h ⟨⟨old, he⟩, hst⟩
    have he' : ∃ oe : Obj, h.get? (s.heap.objs.size + 1) = some oe := ⟨_, he⟩
    obtain ⟨oe, h1⟩ := he'
    obtain ⟨oi, hoi⟩ := live i h hst
    refine ⟨[(s.heap.objs.size + 1, oe), (s.heap.objs.size, oi)], rfl, fun p hp => ?_⟩
    rcases List.mem_cons.mp hp with rfl | hp
    · exact h1
    · rw [List.mem_singleton.mp hp]; exact hoi
  case wr =>
    intro b hb
    have hb' : b = s.heap.objs.size + 1 ∨ b = s.heap.objs.size := by simpa using hb
    rcases hb' with rfl | rfl
    · exact ⟨by show _ < h'.objs.size; rw [hsz']; exact Nat.lt_succ_self _, ktu_new F (Nat.le_add_right _ _), Nat.ne_of_lt (Nat.lt_succ_of_lt hLs), fun p hp => Nat.lt_succ_of_lt (Heap.lt_size (N p hp).1)⟩
    · exact ⟨by show _ < h'.objs.size; rw [hsz']; exact Nat.lt_add_of_pos_right (by decide), ktu_new F (Nat.le_refl _), Nat.ne_of_lt hLs, fun p hp => Heap.lt_size (N p hp).1⟩
  case fp =>
    intro b hb
    exact .inl hb
  case asg =>
    rintro i v s₂ C m' Q' E' hi ⟨T, vals, rfl, ⟨t, x, ⟨c, u, hx, rfl⟩, rfl⟩, hT⟩ hn k
    refine cp_two hh hT hkind ha hb hab hn fun h2 tk2 m2 hm2 hn2 hs2 => k h2 tk2 m2 ⟨t, c, u, hx, hm2.1, hm2.2⟩ hn2 hs2
  case turn =>
    intro i ys nx own C oC D m₂ h tk E' hi hj hadr how hoC hB F' N' l1 l2 l3
    obtain ⟨t, c, u, hv, h1, h2⟩ := hB
    obtain ⟨o1, o2, rfl⟩ := own_two how
    refine turn s.heap.objs.size i c u t ys nx o1 o2 C oC D m₂ h tk h' E' hv hj hadr hoC h1 h2 F' N' (fun p hp => l3 _ ?_ p hp) (l1 (s.heap.objs.size + 1, o1) ?_) l2
    · exact .tail _ (.head _)
    · exact .head _
  case done =>
    intro ys nx hj hadr
    exact done h' ys nx hj hadr
end
end Mine
-- CutR
namespace Mine
theorem off_of {l₁ l₂ : Led} {I : Addr} (h : ∀ q ∈ l₁, q.1 ≠ I) (e : l₂.map (·.1) = l₁.map (·.1)) : ∀ q ∈ l₂, q.1 ≠ I := by
  intro q hq
  have : q.1 ∈ l₁.map (·.1) := e ▸ List.mem_map_of_mem hq
  obtain ⟨p, hp, e⟩ := List.mem_map.mp this
  rw [← e]; exact h p hp
section
variable {prog : Program} {w : World} {A : Around} {E : Value → Shared → Prop} {env : Env} {h₀ : Heap} {L : Addr} {m₀ : Str → Option Value} {s : Shared} {Q : Flow → Shared → Prop} {σ : Type}
/-- a loop over range(n), no turn of which returns: what is wanted behind a turn is a letter -/
theorem rng_for0 {tgt : Expr} {body : List Stmt} {r : Addr} {b : Int} {t u v : Tok} (n : Nat) (led : Nat → σ → Led) (mP : Nat → σ → (Str → Option Value) → Prop) (P : Nat → σ → Prop) (c₀ : σ)
    (hh : A.handled = none) (hr : IsRange s.heap r 0 b 1 t u v) (hn : b = (n : Int) ∧ n < 1000000) (F : Fr h₀ L s.heap m₀) (N : News h₀ L s.heap (led 0 c₀)) (h0 : P 0 c₀) (hm0 : mP 0 c₀ m₀)
    (hadr : ∀ i c j d, (led i c).map (·.1) = (led j d).map (·.1))
    (turn : ∀ (R : Flow → Shared → Prop) (z : Shared) (I : Addr) (oI : Obj) (i : Nat) (c : σ) m t h tk, i < n → P i c → mP i c m → Fr h₀ L h m → News h₀ L h ((I, oI) :: led i c) → (∀ q ∈ led i c, q.1 ≠ I) →
      (∀ c' m' h' tk', P (i + 1) c' → mP (i + 1) c' m' → Fr h₀ L h' m' → News h₀ L h' ((I, oI) :: led (i + 1) c') → R .next { z with heap := h', toks := tk' }) →
      wpAny (model prog w) A (assign tgt env (.int i t)) (fun _ s₂ => wpAny (model prog w) A (execs body env) R (fun _ _ => False) s₂) (fun _ _ => False) { z with heap := h, toks := tk })
    (done : ∀ (c : σ) m h tk, P n c → mP n c m → Fr h₀ L h m → News h₀ L h (led n c) → Q .next { s with heap := h, toks := tk })
    (hE : PassesOwn (model prog w) A env E) (ht : ∀ it v, letOwnedTupleGo tgt it v = pure ()) :
    wpAny (model prog w) A (pyIter (.ref r)) (fun it s₂ => codeAny (model prog w) A (.forLoop tgt it body [] env) (fun r s' => match r with | .ok f => Q f s' | .error e => cameBackBy (model prog w) A env E e s') s₂) E s := by
  obtain ⟨rfl, hz⟩ := hn
  refine rng_for n led mP P c₀ hh hr (small_one (by omega) (by omega) (by omega) (by omega)) (by rw [rangeSize_nat]; omega) F N h0 hm0 ?_ done hE ht
  intro i c m t h tk hi hp hm F' N' off
  rw [Int.zero_add]
  exact turn_cut fun R fin => turn R s _ _ i c m t h tk hi hp hm F' N' off fun c' m' h' tk' p' q' F9 N9 => fin _ _ (RngTurn.again ⟨c', m', h', tk', rfl, p', q', F9, N9, off_of off (hadr ..)⟩)
end
end Mine
-- GrwP
namespace Mine
open Builtin.Str StrLaws
/-- a number by its figures, the last first -/
noncomputable def xOf (q : Int) (ds : List Int) : Int := (termsP ds q).sum
/-- the noughts at its end -/
noncomputable def nz (ds : List Int) : Nat := (ds.takeWhile (· == 0)).length
noncomputable def goalOf (q : Int) (lo : Nat → Nat) (ds : List Int) : Int := q ^ (lo (nz ds) + ds.length + 1 - nz ds)
noncomputable def keepB (r0 r1 r2 r3 q : Int) (lo : Nat → Nat) (ds : List Int) (f : Int) : Bool :=
  xOf q ds + f * q ^ ds.length == 0 || !((Int.fmod (poly r0 r1 r2 r3 (xOf q ds + f * q ^ ds.length) - r0) (goalOf q lo ds) - Int.fmod (-r0) (goalOf q lo ds)) != 0)
/-- the words that follow a word, with the first n figures tried -/
noncomputable def nextW (r0 r1 r2 r3 q : Int) (lo : Nat → Nat) (ds : List Int) (n : Nat) : List (List Int) := ((List.range n).filter fun k : Nat => keepB r0 r1 r2 r3 q lo ds (k : Int)).map fun k : Nat => ds ++ [(k : Int)]
theorem nextW_yes {r0 r1 r2 r3 q : Int} {lo : Nat → Nat} {ds : List Int} {n : Nat} (h : keepB r0 r1 r2 r3 q lo ds (n : Int) = true) : nextW r0 r1 r2 r3 q lo ds (n + 1) = nextW r0 r1 r2 r3 q lo ds n ++ [ds ++ [(n : Int)]] := by
  unfold nextW
  rw [List.range_succ, List.filter_append, List.map_append]
  simp [h]
theorem nextW_no {r0 r1 r2 r3 q : Int} {lo : Nat → Nat} {ds : List Int} {n : Nat} (h : keepB r0 r1 r2 r3 q lo ds (n : Int) = false) : nextW r0 r1 r2 r3 q lo ds (n + 1) = nextW r0 r1 r2 r3 q lo ds n := by
  unfold nextW
  rw [List.range_succ, List.filter_append, List.map_append]
  simp [h]
theorem nextW_len {r0 r1 r2 r3 q : Int} {lo : Nat → Nat} {ds : List Int} (n : Nat) : (nextW r0 r1 r2 r3 q lo ds n).length ≤ n := by
  unfold nextW
  rw [List.length_map]
  have := List.length_filter_le (fun k => keepB r0 r1 r2 r3 q lo ds ((k : Nat) : Int)) (List.range n)
  rwa [List.length_range] at this
/-- a round: the words that follow the first k words of these -/
noncomputable def roundW (r0 r1 r2 r3 q : Int) (lo : Nat → Nat) (ws : List (List Int)) (k : Nat) : List (List Int) := (ws.take k).flatMap fun ds => nextW r0 r1 r2 r3 q lo ds q.toNat
theorem roundW_succ {r0 r1 r2 r3 q : Int} {lo : Nat → Nat} {ws : List (List Int)} {k : Nat} {ds : List Int} (h : ws[k]? = some ds) : roundW r0 r1 r2 r3 q lo ws (k + 1) = roundW r0 r1 r2 r3 q lo ws k ++ nextW r0 r1 r2 r3 q lo ds q.toNat := by
  unfold roundW
  rw [List.take_add_one, h, List.flatMap_append]
  simp
theorem roundW_len {r0 r1 r2 r3 q : Int} {lo : Nat → Nat} {ws : List (List Int)} : ∀ k, (roundW r0 r1 r2 r3 q lo ws k).length ≤ k * q.toNat
  | 0 => by simp [roundW]
  | k + 1 => by
    have ih := roundW_len (r0 := r0) (r1 := r1) (r2 := r2) (r3 := r3) (q := q) (lo := lo) (ws := ws) k
    rcases hx : ws[k]? with _ | ds
    · have : roundW r0 r1 r2 r3 q lo ws (k + 1) = roundW r0 r1 r2 r3 q lo ws k := by
        unfold roundW
        rw [List.take_add_one, hx]
        simp
      rw [this, Nat.succ_mul]
      omega
    · rw [roundW_succ hx, List.length_append, Nat.succ_mul]
      have := nextW_len (r0 := r0) (r1 := r1) (r2 := r2) (r3 := r3) (q := q) (lo := lo) (ds := ds) q.toNat
      omega
/-- the words after t rounds -/
noncomputable def growW (r0 r1 r2 r3 q : Int) (lo : Nat → Nat) : Nat → List (List Int)
  | 0 => [[]]
  | t + 1 => let ws := growW r0 r1 r2 r3 q lo t; roundW r0 r1 r2 r3 q lo ws ws.length
theorem growW_len {r0 r1 r2 r3 q : Int} {lo : Nat → Nat} : ∀ t, (growW r0 r1 r2 r3 q lo t).length ≤ q.toNat ^ t
  | 0 => by simp [growW]
  | t + 1 => by
    have ih := growW_len (r0 := r0) (r1 := r1) (r2 := r2) (r3 := r3) (q := q) (lo := lo) t
    have := roundW_len (r0 := r0) (r1 := r1) (r2 := r2) (r3 := r3) (q := q) (lo := lo) (ws := growW r0 r1 r2 r3 q lo t) (growW r0 r1 r2 r3 q lo t).length
    rw [Nat.pow_succ]
    exact Nat.le_trans this (Nat.mul_le_mul_right _ ih)
/-- figures to the base q -/
noncomputable def InBase (q : Int) (t : Nat) (ds : List Int) : Prop := ds.length = t ∧ ∀ d ∈ ds, 0 ≤ d ∧ d < q
theorem nextW_in {r0 r1 r2 r3 q : Int} {lo : Nat → Nat} {ds : List Int} {t : Nat} (h : InBase q t ds) {n : Nat} (hn : (n : Int) ≤ q) : ∀ e ∈ nextW r0 r1 r2 r3 q lo ds n, InBase q (t + 1) e := by
  intro e he
  unfold nextW at he
  obtain ⟨k, hk, rfl⟩ := List.mem_map.mp he
  have hk := List.mem_range.mp (List.mem_filter.mp hk).1
  refine ⟨by simp [h.1], fun d hd => ?_⟩
  rcases List.mem_append.mp hd with hd | hd
  · exact h.2 d hd
  · rw [List.mem_singleton.mp hd]; omega
theorem growW_in {r0 r1 r2 r3 q : Int} {lo : Nat → Nat} (hq : 0 ≤ q) : ∀ t, ∀ ds ∈ growW r0 r1 r2 r3 q lo t, InBase q t ds
  | 0 => by
    intro ds hd
    rw [List.mem_singleton.mp hd]
    exact ⟨rfl, fun d h => by cases h⟩
  | t + 1 => by
    intro ds hd
    unfold growW roundW at hd
    obtain ⟨e, he, hd⟩ := List.mem_flatMap.mp hd
    exact nextW_in (growW_in hq t e (List.mem_of_mem_take he)) (by omega) ds hd
/-- a word -/
noncomputable def wordS (ds : List Int) : Str := lett (1 :: ds)
theorem wordS_nil : wordS [] = Str.ofString "B" := by decide
theorem wordS_tail {ds : List Int} : Txt.slice (wordS ds) (some 1) none = lett ds := by
  unfold Txt.slice
  have hl : (wordS ds).length = ds.length + 1 := by simp [wordS, lett, Str.length]
  have e : strSliceIndices (some 1) none 1 (wordS ds).length = strSliceIndices (some ((1 : Nat) : Int)) (some ((ds.length + 1 : Nat) : Int)) 1 (wordS ds).length := by
    rw [hl]
    have z1 : ¬ ((ds.length : Int) + 1 < 0) := by omega
    have z2 : max (0 : Int) ((ds.length : Int) + 1) = ds.length + 1 := by omega
    unfold strSliceIndices
    simp [sliceRange, z1, z2]
  have h := sliced_plain (wordS ds) (a := 1) (b := ds.length + 1) (by omega) (by omega)
  have hlen : (strSliceIndices (some ((1 : Nat) : Int)) (some ((ds.length + 1 : Nat) : Int)) 1 (wordS ds).length).length = ds.length := by
    rw [strSliceIndices_plain (by omega) (by omega)]
    simp
  rw [e, if_neg, h]
  · simp [wordS, lett]
    exact List.take_of_length_le (by simp)
  · rw [hlen, hl]; simp
theorem inBase_figs {q : Int} {t : Nat} {ds : List Int} (h : InBase q t ds) (hq : q ≤ 16) : FigsOk ds := fun d hd => by have := h.2 d hd; omega
theorem word_figs {q : Int} {t : Nat} {ds : List Int} (h : InBase q t ds) (hq : q ≤ 16) : FigsOk (1 :: ds) := fun d hd => by
  rcases List.mem_cons.mp hd with rfl | hd
  · decide
  · exact inBase_figs h hq d hd
theorem numOf_figs : ∀ (l : List Int) (a : Int), (l.map fun d => 65 + d).foldl (fun a c => 16 * a + c - 65) a = l.foldl (fun a d => 16 * a + d) a
  | [], _ => rfl
  | d :: l, a => by
    rw [List.map_cons, List.foldl_cons, List.foldl_cons, numOf_figs l, show 16 * a + (65 + d) - 65 = 16 * a + d by omega]
theorem numOf_lett {ds : List Int} (ok : FigsOk ds) : numOf (KStt.codes (lett ds)) = valD ds := by
  have e : KStt.codes (lett ds) = ds.map fun d => 65 + d := by
    show (ds.map fun d => 65 + d.toNat).toArray.toList.map _ = _
    simp only [List.map_map]
    refine List.map_congr_left fun d hd => ?_
    have := ok d hd
    simp only [Function.comp]
    omega
  rw [e]
  exact numOf_figs ds 0
/-- the text without its noughts in front -/
theorem strip_len {q : Int} {t : Nat} {ds : List Int} (h : InBase q t ds) : ((ds.map fun d => 65 + d.toNat).dropWhile (· == 65)).length + nz ds = t := by
  rw [← h.1]
  have h2 := h.2
  clear h
  induction ds with
  | nil => rfl
  | cons d ds ih =>
    have hd := h2 d (by simp)
    have ih := ih fun x hx => h2 x (by simp [hx])
    unfold nz at ih ⊢
    by_cases e : d = 0
    · subst e
      simp only [List.map_cons, List.dropWhile_cons, List.takeWhile_cons]
      simp
      omega
    · have e1 : (65 + d.toNat == 65) = false := by rw [beq_eq_false_iff_ne]; omega
      have e2 : (d == 0) = false := by rw [beq_eq_false_iff_ne]; exact e
      simp only [List.map_cons, List.dropWhile_cons, List.takeWhile_cons, e1, e2]
      simp
theorem nz_le {q : Int} {t : Nat} {ds : List Int} (h : InBase q t ds) : nz ds ≤ t := by have := strip_len h; omega
theorem zsum {q : Int} (hq : 0 < q) : ∀ (ds : List Int) (k : Nat), (∀ d ∈ ds, 0 ≤ d ∧ d < q) → 0 ≤ ((ds.zipIdx k).map fun p => p.1 * q ^ p.2).sum ∧ ((ds.zipIdx k).map fun p => p.1 * q ^ p.2).sum ≤ q ^ (k + ds.length) - q ^ k
  | [], k, _ => by simp
  | d :: ds, k, h => by
    have ih := zsum hq ds (k + 1) fun x hx => h x (by simp [hx])
    have hd := h d (by simp)
    have hp : 0 < q ^ k := Int.pow_pos hq
    rw [List.zipIdx_cons, List.map_cons, List.sum_cons, List.length_cons]
    have e1 : k + (ds.length + 1) = k + 1 + ds.length := by omega
    rw [e1]
    have e2 : q ^ (k + 1) = q ^ k * q := Int.pow_succ ..
    have m1 : 0 ≤ d * q ^ k := Int.mul_nonneg hd.1 (Int.le_of_lt hp)
    have m2 : d * q ^ k ≤ (q - 1) * q ^ k := Int.mul_le_mul_of_nonneg_right (by omega) (Int.le_of_lt hp)
    have m3 : (q - 1) * q ^ k = q ^ k * q - q ^ k := by rw [Int.sub_mul, Int.one_mul, Int.mul_comm]
    dsimp only
    omega
theorem xOf_bd {q : Int} {t : Nat} {ds : List Int} (hq : 0 < q) (h : InBase q t ds) : 0 ≤ xOf q ds ∧ xOf q ds < q ^ t := by
  have := zsum hq ds 0 h.2
  rw [Nat.zero_add, Int.pow_zero, h.1] at this
  unfold xOf termsP
  omega
end Mine
-- Grw
namespace Mine
section
variable {w : World} {p : Program} {loose : List Str} {mean : ExcName → Option Value} {mg mb : Str → Option Value} {dp un : Nat} {gd : Option (List Code)} {cn : Str} {cs : Scope} {a : Addr} {ccd : Value} {cl : List (Str × Addr)} {outer : List Env} {A₀ : Around} {base h₀ : Heap} {L : Addr} {m : Str → Option Value} {s : Shared} {Q E : Value → Shared → Prop} {news news' : Led}
  {lx dx pb tp : Addr} {K : LK} {n : Int} {tn : Tok} {ws : List Value} {ep : Nat} {x : Str} {tx : Tok}
theorem use_push (B : Below A₀ base outer h₀) (F : Fr h₀ L s.heap m) (X : (hd.heap_1 w.params).In h₀) (T : Top p loose mean mg mb h₀) (hk : cs.kind = .function) (N : News h₀ L s.heap news)
    (m1 : (lx, instObj 118 dx) ∈ news) (m2 : (dx, lexDict K n tn tp pb) ∈ news) (U : Upd pb (W.listOf ws.toArray ep) (W.listOf (ws ++ [Value.str x tx]).toArray (ep + 1)) news news') (hz : ws.length < 1000) (ne : dx ≠ pb ∧ lx ≠ pb ∧ lx ≠ dx)
    (hd : dp + 1 < recursionLimit) (hu : un + 20 * 1 < cLine) (ret : ∀ h' tk', Fr h₀ L h' m → News h₀ L h' news' → Q .none { s with heap := h', toks := tk' }) :
    wpAny (model Challenge.rw_wj0057_01.row.prog w) (ktrTop dp un gd cn cs L a ccd cl outer) (call (.ref 115) [.ref lx, .str x tx] []) Q E s := by
  have hs : ∀ q ∈ lexSub lx dx pb tp K n tn ws ep, q ∈ news := by
    intro q hq
    simp only [lexSub, List.mem_cons, List.not_mem_nil, or_false] at hq
    rcases hq with rfl | rfl | rfl
    · exact m1
    · exact m2
    · exact Upd.mem U
  refine cl_gen (cl_push lx dx pb tp K n tn ws ep x tx hz) B F X T hk N hs ne hd hu fun v h' tk' F' k hp => ?_
  obtain ⟨rfl, e1, e2⟩ := hp
  refine ret h' tk' F' (led_upd N hs k U e1 fun q hq hne => e2 q ?_ hne)
  simp only [lexSub, List.mem_cons, List.not_mem_nil, or_false] at hq ⊢
  rcases hq with rfl | rfl | rfl
  · exact .inl rfl
  · exact .inr (.inl rfl)
  · exact absurd rfl hne
theorem use_pop (B : Below A₀ base outer h₀) (F : Fr h₀ L s.heap m) (X : (hd.heap_1 w.params).In h₀) (T : Top p loose mean mg mb h₀) (hk : cs.kind = .function) (N : News h₀ L s.heap news)
    (m1 : (lx, instObj 118 dx) ∈ news) (m2 : (dx, lexDict K n tn tp pb) ∈ news) (U : Upd pb (W.listOf (Value.str x tx :: ws).toArray ep) (W.listOf ws.toArray (ep + 1)) news news') (hz : ws.length < 1000) (ne : dx ≠ pb ∧ lx ≠ pb ∧ lx ≠ dx)
    (hd : dp + 1 < recursionLimit) (hu : un + 20 * 1 < cLine) (ret : ∀ h' tk', Fr h₀ L h' m → News h₀ L h' news' → Q (.str x tx) { s with heap := h', toks := tk' }) :
    wpAny (model Challenge.rw_wj0057_01.row.prog w) (ktrTop dp un gd cn cs L a ccd cl outer) (call (.ref 108) [.ref lx] []) Q E s := by
  have hs : ∀ q ∈ lexSub lx dx pb tp K n tn (Value.str x tx :: ws) ep, q ∈ news := by
    intro q hq
    simp only [lexSub, List.mem_cons, List.not_mem_nil, or_false] at hq
    rcases hq with rfl | rfl | rfl
    · exact m1
    · exact m2
    · exact Upd.mem U
  refine cl_gen (cl_pop lx dx pb tp K n tn ws ep x tx hz) B F X T hk N hs ne hd hu fun v h' tk' F' k hp => ?_
  obtain ⟨rfl, e1, e2⟩ := hp
  refine ret h' tk' F' (led_upd N hs k U e1 fun q hq hne => e2 q ?_ hne)
  simp only [lexSub, List.mem_cons, List.not_mem_nil, or_false] at hq ⊢
  rcases hq with rfl | rfl | rfl
  · exact .inl rfl
  · exact .inr (.inl rfl)
  · exact absurd rfl hne
theorem use_hget {hx hdx hl : Addr} {hh : Int} {hk' : Tok} {vs : List Value} {ep2 : Nat} {tl : Led} {lo : Nat → Nat} {j : Nat} {tj : Tok} (hj : j < vs.length) (h6 : vs.length ≤ 6) (hv : HdrOk lo vs tl)
    (B : Below A₀ base outer h₀) (F : Fr h₀ L s.heap m) (X : (hd.heap_1 w.params).In h₀) (T : Top p loose mean mg mb h₀) (hk : cs.kind = .function) (N : News h₀ L s.heap news)
    (m1 : (hl, W.listOf vs.toArray ep2) ∈ news) (m2 : (hx, instObj 268 hdx) ∈ news) (m3 : (hdx, hdrDict hh hk' hl) ∈ news) (o : @LT.lt Nat _ hdx hx ∧ @LT.lt Nat _ hx hl) (htl : ∀ q ∈ tl, h₀.get? q.1 = some q.2 ∧ @LT.lt Nat _ hl q.1)
    (hd : dp + 2 < recursionLimit) (hu : un + 20 * 2 < cLine) (ret : ∀ t h' tk', Fr h₀ L h' m → News h₀ L h' news → Q (.str (lett (digs (lo j))) t) { s with heap := h', toks := tk' }) :
    wpAny (model Challenge.rw_wj0057_01.row.prog w) (ktrTop dp un gd cn cs L a ccd cl outer) (call (.ref 215) [.ref hx, .str ⟨(List.replicate j 65).toArray⟩ tj] []) Q E s := by
  have hs : ∀ q ∈ hdr3 hx hdx hl hh hk' vs ep2, q ∈ news := by
    intro q hq
    simp only [hdr3, List.mem_cons, List.not_mem_nil, or_false] at hq
    rcases hq with rfl | rfl | rfl <;> assumption
  refine cl_gen (cl_hget hx hdx hl hh hk' vs ep2 tl lo j tj hj h6 hv) B F X T hk N hs ⟨o, fun q hq => ⟨F.keep _ _ (htl q hq).1, (htl q hq).2⟩⟩ hd hu fun v h' tk' F' k hp => ?_
  obtain ⟨⟨t, rfl⟩, e1⟩ := hp
  exact ret t h' tk' F' (led_same N hs k e1)
end
structure GwS where
  dv : List Value
  de : Nat
noncomputable abbrev gwLed (lx dx pb tp hx hdx hl L : Addr) (K : LK) (n : Int) (tn : Tok) (hh : Int) (hkT : Tok) (vs : List Value) (ep2 : Nat) (c1 c2 : Obj) (c : GwS) : Led :=
  [(L + 1 + 1, c1), (L + 1, c2), (lx, instObj 118 dx), (dx, lexDict K n tn tp pb), (pb, W.listOf c.dv.toArray c.de), (hl, W.listOf vs.toArray ep2), (hx, instObj 268 hdx), (hdx, hdrDict hh hkT hl)]
noncomputable def hdrAft (hx hdx hl pb lx dx : Addr) : Prop := (@LT.lt Nat _ hdx hx ∧ @LT.lt Nat _ hx hl) ∧ (@Ne Nat dx pb ∧ @Ne Nat lx pb ∧ @Ne Nat lx dx) ∧ (@Ne Nat pb hdx ∧ @Ne Nat pb hx ∧ @Ne Nat pb hl)
noncomputable abbrev six (lx dx pb hx hdx hl : Addr) : List Addr := [lx, dx, pb, hl, hx, hdx]
theorem strs_cons {vs : List Value} {x : Str} {ts : List Str} (h : StrsAre vs (x :: ts)) : ∃ t vs', vs = .str x t :: vs' ∧ StrsAre vs' ts := by
  cases h with
  | cons _ t h => exact ⟨t, _, rfl, h⟩
theorem lett_size (ds : List Int) : (lett ds).cps.size = ds.length := by simp [lett]
theorem lett_at {ds : List Int} {i c : Nat} (h : (lett ds).cps[i]? = some c) : ∃ d, ds[i]? = some d ∧ c = 65 + d.toNat := by
  have h : (ds.map fun d => 65 + d.toNat)[i]? = some c := by simpa [lett] using h
  rw [List.getElem?_map] at h
  cases e : ds[i]? with
  | none => rw [e] at h; cases h
  | some d => rw [e] at h; exact ⟨d, rfl, (Option.some.inj h).symm⟩
theorem qp5 {q : Int} (hq : QP q) : (2 ≤ q ∧ q ≤ 5) ∧ q.natAbs < 2 ^ 64 := by rcases hq with rfl | rfl | rfl <;> decide
theorem qp_nice {q : Int} (hq : QP q) {n : Nat} (hn : n ≤ 6) : -(2 ^ 63) < q ^ n ∧ q ^ n < 2 ^ 63 := by
  have := qpow_le hq hn
  omega
theorem keep_zero {r0 r1 r2 r3 q : Int} {lo : Nat → Nat} {ds : List Int} {f : Int} (h : xOf q ds + f * q ^ ds.length = 0) : keepB r0 r1 r2 r3 q lo ds f = true := by
  unfold keepB
  rw [h]; rfl
theorem keep_else {r0 r1 r2 r3 q : Int} {lo : Nat → Nat} {ds : List Int} {f : Int} (h : ¬ xOf q ds + f * q ^ ds.length = 0) :
    keepB r0 r1 r2 r3 q lo ds f = !((Int.fmod (poly r0 r1 r2 r3 (xOf q ds + f * q ^ ds.length) - r0) (goalOf q lo ds) - Int.fmod (-r0) (goalOf q lo ds)) != 0) := by
  unfold keepB
  rw [beq_eq_false_iff_ne.mpr h, Bool.false_or]
theorem further_bd {q x f : Int} {i : Nat} (hq : QP q) (hi : i < 6) (hx : 0 ≤ x ∧ x < q ^ i) (hf : 0 ≤ f ∧ f < 5) : -(2 ^ 63) < x + f * q ^ i ∧ x + f * q ^ i < 2 ^ 63 := by
  have h := qpow_le hq (n := i) (by omega)
  have m1 : 0 ≤ f * q ^ i := Int.mul_nonneg hf.1 (by omega)
  have m2 : f * q ^ i ≤ 5 * q ^ i := Int.mul_le_mul_of_nonneg_right (by omega) (by omega)
  omega
theorem bne_no {a : Int} (h : a ≠ 0) : (!(a != 0)) = false := by simp [h]
theorem bne_yes {a : Int} (h : a = 0) : (!(a != 0)) = true := by simp [h]
theorem gw_small {r0 r1 r2 r3 q : Int} {lo : Nat → Nat} {i dep : Nat} (hq : QP q) (hi : i < dep) (hpw : q ^ dep ≤ 125) : (growW r0 r1 r2 r3 q lo i).length * q.toNat ≤ 125 ∧ (growW r0 r1 r2 r3 q lo i).length ≤ 125 := by
  have h := growW_len (r0 := r0) (r1 := r1) (r2 := r2) (r3 := r3) (q := q) (lo := lo) i
  obtain ⟨n, rfl⟩ : ∃ n : Nat, q = n := ⟨q.toNat, by rcases hq with h | h | h <;> omega⟩
  have hn : 1 ≤ n := by rcases hq with h | h | h <;> omega
  have h3 : n ^ dep ≤ 125 := by have := Int.natCast_pow n dep; omega
  have h2 : n ^ (i + 1) ≤ n ^ dep := Nat.pow_le_pow_right hn hi
  rw [Int.toNat_natCast] at h ⊢
  have h4 : (growW r0 r1 r2 r3 (n : Int) lo i).length * n ≤ 125 := calc
    _ ≤ n ^ i * n := Nat.mul_le_mul_right _ h
    _ = n ^ (i + 1) := (Nat.pow_succ ..).symm
    _ ≤ 125 := Nat.le_trans h2 h3
  exact ⟨h4, Nat.le_trans (Nat.le_mul_of_pos_right _ hn) h4⟩
theorem queue_len {r0 r1 r2 r3 q : Int} {lo : Nat → Nat} {W : List (List Int)} {ds : List Int} {i k j : Nat} {dv : List Value} (hW : W.length * q.toNat ≤ 125 ∧ W.length ≤ 125) (hk : k ≤ W.length) (hj : j ≤ 5)
    (h : StrsAre dv ((W.drop i ++ roundW r0 r1 r2 r3 q lo W k ++ nextW r0 r1 r2 r3 q lo ds j).map wordS)) : dv.length < 1000 := by
  have h1 := h.length
  have h2 := roundW_len (r0 := r0) (r1 := r1) (r2 := r2) (r3 := r3) (q := q) (lo := lo) (ws := W) k
  have h3 : k * q.toNat ≤ W.length * q.toNat := Nat.mul_le_mul_right _ hk
  have h4 := nextW_len (r0 := r0) (r1 := r1) (r2 := r2) (r3 := r3) (q := q) (lo := lo) (ds := ds) j
  simp only [List.map_append, List.length_append, List.length_map, List.length_drop] at h1
  omega
theorem cl_grow : ∀ (lx dx pb tp lr hx hdx hl : Addr) (K : LK) (n : Int) (tn : Tok) (ep : Nat) (hh : Int) (hkT : Tok) (vs : List Value) (ep2 : Nat) (tl : Led) (lo : Nat → Nat) (r0 r1 r2 r3 q : Int) (dep : Nat) (a0 a1 a2 a3 tq td : Tok)
   (hdep : dep ≤ 6 ∧ vs.length = dep) (hq : QP q) (hv : HdrOk lo vs tl) (hlo : ∀ N, N < dep → lo N ≤ 15) (hpw : q ^ dep ≤ 125), Cl 4 339 [.ref lx, .ref hx, .ref lr, .int q tq, .int dep td] [] (lexSub lx dx pb tp K n tn [] ep ++ hdr3 hx hdx hl hh hkT vs ep2) (fun h => hdrAft hx hdx hl pb lx dx ∧ (∀ q ∈ tl, h.get? q.1 = some q.2 ∧ @LT.lt Nat _ hl q.1 ∧ q.1 ∉ six lx dx pb hx hdx hl) ∧ h.IsList lr [Value.int r0 a0, .int r1 a1, .int r2 a2, .int r3 a3].toArray ∧ lr ∉ six lx dx pb hx hdx hl)
     (fun v h h' => NewStrs ((growW r0 r1 r2 r3 q lo dep).map wordS) v h h' ∧ ∃ ep', h'.get? pb = some (W.listOf ([] : List Value).toArray ep') ∧ ∀ q ∈ lexSub lx dx pb tp K n tn [] ep ++ hdr3 hx hdx hl hh hkT vs ep2, q.1 ≠ pb → h'.get? q.1 = some q.2) := by
  refine eps8 (ne8 ne_nat ne_nat ne_nat ne_nat ne_nat ne_nat ne_nat ne_nat) ((?_ : ∀ a0 a1 a2 a3 a4 a5 a6 a7, At8 _ a0 a1 a2 a3 a4 a5 a6 a7) _ _ _ _ _ _ _ _)
  intros lx dx pb tp lr hx hdx hl
  refine At8.mk ?_
  refine eps8 (ne8 (⟨⟨0, 0, 0, 0, 0, 0, 0, 0, 0⟩⟩) ne_int ne_nat ne_nat ne_int ne_nat ne_vals ne_nat) ((?_ : ∀ a0 a1 a2 a3 a4 a5 a6 a7, At8 _ a0 a1 a2 a3 a4 a5 a6 a7) _ _ _ _ _ _ _ _)
  intros K n tn ep hh hkT vs ep2
  refine At8.mk ?_
  refine eps8 (ne8 ne_led (⟨fun n => n⟩) ne_int ne_int ne_int ne_int ne_int ne_nat) ((?_ : ∀ a0 a1 a2 a3 a4 a5 a6 a7, At8 _ a0 a1 a2 a3 a4 a5 a6 a7) _ _ _ _ _ _ _ _)
  intros tl lo r0 r1 r2 r3 q dep
  refine At8.mk ?_
  refine eps4 (ne4 ne_nat ne_nat ne_nat ne_nat) ((?_ : ∀ a0 a1 a2 a3, At4 _ a0 a1 a2 a3) _ _ _ _)
  intros a0 a1 a2 a3
  refine At4.mk ?_
  refine eps2 (ne2 ne_nat ne_nat) ((?_ : ∀ a0 a1, At2 _ a0 a1) _ _)
  intros tq td
  refine At2.mk ?_
  intros hdep
  intros hq
  intros hv
  intros hlo
  intros hpw
  k_with_none
  k_with "kne" => (refine neN ?_; (try dsimp only); first | exact Nat.ne_of_gt (by with_reducible assumption) | exact Nat.ne_of_lt (by with_reducible assumption) | with_reducible assumption | exact Ne.symm (by with_reducible assumption) | exact Nat.succ_ne_self _ | exact Ne.symm (Nat.succ_ne_self _) | (apply Nat.ne_of_gt; apply And.left; k_extra "krn"; done) | (apply Nat.ne_of_lt; apply And.left; k_extra "krn"; done) | (apply Nat.ne_of_gt; k_extra "krn"; done) | (apply Nat.ne_of_lt; k_extra "krn"; done) | k_extra "kd4" | (apply Ne.symm; k_extra "kd4") | omega)
  k_with "kd1" => first | with_reducible assumption | (apply And.left; with_reducible assumption) | (apply And.right; with_reducible assumption)
  k_with "kd2" => first | with_reducible assumption | (apply And.left; k_extra "kd1") | (apply And.right; k_extra "kd1")
  k_with "kd3" => first | with_reducible assumption | (apply And.left; k_extra "kd2") | (apply And.right; k_extra "kd2")
  k_with "kd4" => first | with_reducible assumption | (apply And.left; k_extra "kd3") | (apply And.right; k_extra "kd3")
  k_with "krn" => ((iterate 19 (first | done | with_reducible assumption | apply And.right)); done)
  k_with "omg" => first | exact Mine.room2 (by with_reducible assumption) rfl | exact Mine.units2 (by with_reducible assumption) cLine_is rfl | ((repeat (rename @Ne Nat _ _ => z9w; clear z9w)); (repeat (rename @Ne Nat _ _ ∧ _ => z9w; clear z9w)); (repeat (rename (@Ne Nat _ _ ∧ _) ∧ _ => z9w; clear z9w)); omega +splitDisjunctions)
  k_with "exec For Name Call cons nil" => (k_here; (with_reducible show wpAny _ _ (exec (Stmt.For (Expr.Name _ _) (Expr.Call _ _ _ _) _ [] _) _) _ _ _); refine wpAny_For ?_ (fun _ => rfl))
  k_with "exec For Name Call cons cons" => (k_here; (with_reducible show wpAny _ _ (exec (Stmt.For (Expr.Name _ _) (Expr.Call _ _ _ _) _ [] _) _) _ _ _); refine wpAny_For ?_ (fun _ => rfl))
  k_with "pyIter ref" => ((with_reducible show wpAny _ _ (pyIter (Value.ref _)) _ _ _); refine Hold.of ?_; walk_say "BREAK")
  k_with "binaryOp Mult int int" => ((with_reducible show wpAny _ _ (binaryOp Operator.Mult (Value.int _ _) (Value.int _ _)) _ _ _); refine Hold.of ?_; walk_say "BREAK")
  k_with "binaryOp Pow int int" => ((with_reducible show wpAny _ _ (binaryOp Operator.Pow (Value.int _ _) (Value.int _ _)) _ _ _); refine Hold.of ?_; walk_say "BREAK")
  k_with "call type:enumerate" => ((with_reducible show wpAny _ _ (PySem.call (Value.type "enumerate") [Value.str _ _] []) _ _ _); refine Hold.of ?_; walk_say "BREAK")
  k_with "call builtin:bytes.decode" => ((with_reducible show wpAny _ _ (PySem.call (Value.builtin "bytes.decode") _ _) _ _ _); refine Hold.of ?_; walk_say "BREAK")
  k_with "call builtin:str.lstrip" => ((with_reducible show wpAny _ _ (PySem.call (Value.builtin "str.lstrip") _ _) _ _ _); refine Hold.of ?_; walk_say "BREAK")
  k_with "binaryOp Mult str int" => ((with_reducible show wpAny _ _ (binaryOp _ (Value.str _ _) (Value.int _ _)) _ _ _); refine Hold.of ?_; walk_say "BREAK")
  k_with "exec If" => ((with_reducible show wpAny _ _ (exec (Stmt.If (Expr.BoolOp _ _ _) _ _ _) _) _ _ _); refine Hold.of ?_; walk_say "BREAK")
  k_with "eval ListComp" => ((with_reducible show wpAny _ _ (eval (Expr.ListComp _ _ _ _) _) _ _ _); refine Hold.of ?_; walk_say "BREAK")
  k_with "call ref" => ((with_reducible show wpAny _ _ (PySem.call (Value.ref _) _ _) _ _ _); refine Hold.of ?_; walk_say "BREAK")
  w_top off
  unfold Cl
  k_fill
  refine eps23 ne_cx ((?_ : ∀ w p loose mean mg mb dp un gd cn cs a ccd cl outer A₀ base h₀ L m s Q E, At23 _ w p loose mean mg mb dp un gd cn cs a ccd cl outer A₀ base h₀ L m s Q E) _ _ _ _ _ _ _ _ _ _ _ _ _ _ _ _ _ _ _ _ _ _ _)
  intros w p loose mean mg mb dp un gd cn cs a ccd cl outer A₀ base h₀ L m s Q E
  refine At23.mk ?_
  intros B F X T hk N hpre hd hu hret
  k_dflt (refine' enter_cells ?k1 ?k2 ?k3 ?k4 ?k5 ?kA ?kF ?kK ?k6 ?k7 ?k8 ?k9 ?kB ?kD ?_ ?c2 ?c3 ?c4; (case kA => exact rfl); (case kF => exact rfl); (case kK => assumption); (case k1 => k_asm); (case k2 => k_asm); (case k3 => k_asm); (case k4 => k_asm); (case k5 => k_asm); (case k6 => k_is); (case k7 => k_is); (case k8 => ktr_room); (case k9 => first | exact BindsTo.of_eq rfl | exact binds_K (by k_in) rfl (by k_is) rfl rfl rfl); (case kB => exact rfl); (case kD => decide +kernel); (case c2 => exact rfl); (case c3 => exact rfl); (case c4 => exact rfl); k_whole; refine eps4 (ne4 ne_heap ne_nat ne_heap ne_nat) ((?_ : ∀ a b c d, At4 _ a b c d) _ _ _ _); intros g' L' h' tk'; refine At4.mk ?_; intros cells' FG' F' N' Y' B' X' T' l1 kG'; (try k_lt l1); k_cells Y'; (try simp only [List.cons_append, List.nil_append] at N'); (try dsimp only); (try k_fold))
  obtain ⟨⟨n1, n2, n3⟩, p2, p3, p4⟩ := hpre
  have i1 : g'.IsList lr [Value.int r0 a0, .int r1 a1, .int r2 a2, .int r3 a3].toArray := p3.at fun o e => kG' _ o e p4
  have i2 : ∀ q ∈ tl, g'.get? q.1 = some q.2 ∧ @LT.lt Nat _ hl q.1 := fun q hq => ⟨kG' _ _ (p2 q hq).1 (p2 q hq).2.2, (p2 q hq).2.1⟩
  clear p2 p3 p4
  dsimp only [lexSub, hdr3, List.cons_append, List.nil_append] at N'
  refine cut fun Rt fin => ?_
  (rename Fr g' L' _ _ => F4)
  obtain ⟨m1, w1, w2, w3, F5⟩ : ∃ m1 : Str → Option Value, m1 (Str.ofString "sides") = some (.ref hx) ∧ m1 (Str.ofString "row") = some (.ref lr) ∧ m1 (Str.ofString "depth") = some (.int dep td) ∧ Fr g' L' _ m1 := ⟨_, rfl, rfl, rfl, F4⟩
  clear F4
  (rw [map_put w1] at F5); (rw [map_put w2] at F5); (rw [map_put w3] at F5)
  clear w1 w2 w3
  k_steps
  refine Hold.on ?_
  have l2 : ∀ b ∈ six lx dx pb hx hdx hl, @LT.lt Nat _ b L' := by
    intro b hb
    simp only [six, List.mem_cons, List.not_mem_nil, or_false] at hb
    have g9 : ∀ o, (b, o) ∈ lexSub lx dx pb tp K n tn [] ep ++ hdr3 hx hdx hl hh hkT vs ep2 → @LT.lt Nat _ b L' := fun o ho => l1 _ ho
    rcases hb with rfl | rfl | rfl | rfl | rfl | rfl
    · exact g9 _ (.head _)
    · exact g9 _ (List.mem_of_getElem? (i := 1) rfl)
    · exact g9 _ (List.mem_of_getElem? (i := 2) rfl)
    · exact g9 _ (List.mem_of_getElem? (i := 3) rfl)
    · exact g9 _ (List.mem_of_getElem? (i := 4) rfl)
    · exact g9 _ (List.mem_of_getElem? (i := 5) rfl)
  have l3 : @LT.lt Nat _ pb L' := l2 pb (List.mem_of_getElem? (i := 2) rfl)
  clear l1
  (rename Obj.data _ = _ => d2)
  have d3 := HideP.mk d2
  clear d2
  (rename Obj.data _ = _ => d1)
  have d2 := d3.h
  clear d3
  k_dflt (refine' (use_push (ws := [])) ?k1 ?k2 ?k3 ?k4 ?k5 ?k6 ?m1 ?m2 ?U ?hz ?ne ?kd ?ku ?_; (case k1 => k_asm); (case k2 => k_asm); (case k3 => k_asm); (case k4 => k_asm); (case k5 => first | exact rfl | assumption); (case k6 => with_reducible assumption); (case m1 => k_mem); (case m2 => k_mem); (case U => k_upd); (case ne => assumption); (case kd => ktr_room); (case ku => ktr_units))
  case hz => decide
  intro h9 tk9 F9 N9
  obtain ⟨c1, c2, v0, e0, dl, dq, ys0, N8⟩ : ∃ (c1 c2 : Obj) (v0 : List Value) (e0 : Nat), c2.data = .cell (some (.ref lx)) ∧ c1.data = .cell (some (.int q tq)) ∧ StrsAre v0 [wordS []] ∧ News g' L' h9 (gwLed lx dx pb tp hx hdx hl L' K n tn hh hkT vs ep2 c1 c2 ⟨v0, e0⟩) := by
    refine ⟨_, _, [.str _ _], _, d2, d1, ?_, N9⟩
    rw [wordS_nil]; exact .cons _ _ .nil
  clear N9 d1 d2
  clear F5
  revert N8
  revert ys0
  revert dq
  revert dl
  revert F9
  revert fin
  revert Rt m1 h9 tk9 c1 c2 v0 e0
  refine eps8 (ne8 ne_post ne_map ne_heap ne_nat ne_obj ne_obj ne_vals ne_nat) ((?_ : ∀ a0 a1 a2 a3 a4 a5 a6 a7, At8 _ a0 a1 a2 a3 a4 a5 a6 a7) _ _ _ _ _ _ _ _)
  intros Rt m1 h9 tk9 c1 c2 v0 e0
  refine At8.mk ?_
  intros fin F9 dl dq ys0 N8
  (try k_fold)
  k_steps
  refine Hold.on ?_
  (rename News g' L' _ _ => N9)
  (rename Fr g' L' _ _ => F9)
  (rename IsRange _ _ _ _ _ _ _ _ => rg9)
  refine rng_for0 dep (fun (_ : Nat) (c : GwS) => gwLed lx dx pb tp hx hdx hl L' K n tn hh hkT vs ep2 c1 c2 c)
    (fun i _ m => m (Str.ofString "sides") = some (.ref hx) ∧ m (Str.ofString "row") = some (.ref lr) ∧ ∃ t, m (Str.ofString "kept") = some (.int ((growW r0 r1 r2 r3 q lo i).length : Nat) t))
    (fun i c => StrsAre c.dv ((growW r0 r1 r2 r3 q lo i).map wordS)) ⟨v0, e0⟩ rfl rg9 ⟨rfl, by omega⟩ F9 N9 ys0 ⟨rfl, rfl, _, rfl⟩ (fun _ _ _ _ => rfl) ?turn ?done ?hE ?ht
  case hE => passes_own
  case ht => intro _ _; rfl
  case done =>
    (repeat (rename News _ _ _ _ => z9; clear z9)); (repeat (rename Fr _ _ _ _ => z9; clear z9)); (repeat (rename IsRange _ _ _ _ _ _ _ _ => z9; clear z9)); (repeat (rename IntsAre _ _ => z9; clear z9))
    intro c m h tk hP hm F5 N5
    obtain ⟨w1, w2, _, w3⟩ := hm
    (rw [map_put w1] at F5); (rw [map_put w2] at F5); (rw [map_put w3] at F5)
    clear w1 w2 w3
    (try dsimp only)
    (try k_fold)
    k_steps
    refine Hold.on ?_
    refine cp_comp (by with_reducible assumption) (by with_unfolding_all rfl) (by decide) rfl (by decide) ?_
    k_steps
    refine Hold.on ?_
    (rename Fr g' L' _ _ => F8)
    (rename News g' L' _ _ => N8)
    (rename IsRange _ _ _ _ _ _ _ _ => rg9)
    have hWl : (growW r0 r1 r2 r3 q lo dep).length ≤ 125 := by
      have h := growW_len (r0 := r0) (r1 := r1) (r2 := r2) (r3 := r3) (q := q) (lo := lo) dep
      have h2 : ((q.toNat ^ dep : Nat) : Int) = q ^ dep := by rw [Int.natCast_pow, Int.toNat_of_nonneg (by have := (qp5 hq).1; omega)]
      omega
    generalize growW r0 r1 r2 r3 q lo dep = W at hP rg9 F8 hWl fin hret ⊢
    refine cp_rng (n := W.length) (fun i ys nx => ∃ c : GwS, nx = gwLed lx dx pb tp hx hdx hl L' K n tn hh hkT vs ep2 c1 c2 c ∧ StrsAre c.dv ((W.drop i).map wordS) ∧ StrsAre ys ((W.take i).map wordS)) rfl rg9 (small_one (by omega) (by omega) (by omega) (by omega)) (by rw [rangeSize_nat]; omega) (by rw [sizeLine_eq]; omega) F8 N8 rfl rfl ⟨c, rfl, hP, .nil⟩ ?turn8 ?done8
    case turn8 =>
      (repeat (rename News _ _ _ _ => z9; clear z9)); (repeat (rename Fr _ _ _ _ => z9; clear z9)); (repeat (rename IsRange _ _ _ _ _ _ _ _ => z9; clear z9)); (repeat (rename IntsAre _ _ => z9; clear z9))
      intro I9 i9 t9 ys nx oI' C oC D9 m₂ h9 tk9 hp9 E9 hi9 hj hadr hoC ha F9 N9 l1' l2' l3'
      refine cut fun R9 fin9 => ?_
      obtain ⟨c, rfl, hq1, hq2⟩ := hj
      obtain ⟨dv, de⟩ := c
      have hds : W[i9]? = some W[i9] := List.getElem?_eq_getElem hi9
      rw [List.drop_eq_getElem_cons hi9] at hq1
      generalize W[i9] = ds at hds hq1
      obtain ⟨tw, dv, rfl, hq3⟩ := strs_cons hq1
      have hzl : dv.length < 1000 := by
        have := hq3.length
        rw [List.length_map, List.length_drop] at this
        omega
      have qI9 : @LT.lt Nat _ pb I9 := l1' (pb, _) (List.mem_of_getElem? (i := 4) rfl)
      k_steps
      refine Hold.on ?_
      k_dflt (refine' (use_pop (ws := dv)) ?k1 ?k2 ?k3 ?k4 ?k5 ?k6 ?m1 ?m2 ?U ?hz ?ne ?kd ?ku ?_; (case k1 => k_asm); (case k2 => k_asm); (case k3 => k_asm); (case k4 => k_asm); (case k5 => first | exact rfl | assumption); (case k6 => with_reducible assumption); (case m1 => k_mem); (case m2 => k_mem); (case U => k_upd); (case ne => assumption); (case kd => ktr_room); (case ku => ktr_units))
      case hz => exact hzl
      intro h9 tk9 F9 N9
      (try dsimp only)
      (try k_fold)
      k_steps
      refine fin9 _ _ (CpEnd.intro (own := [(I9, oI')]) (gwLed lx dx pb tp hx hdx hl L' K n tn hh hkT vs ep2 c1 c2 ⟨dv, de + 1⟩) (by with_reducible assumption) N9 (fun p hp => hp) rfl ⟨_, rfl, hq3, ?_⟩)
      rw [List.take_add_one, hds, List.map_append]
      exact hq2.snoc _ _
    case done8 =>
      (repeat (rename News _ _ _ _ => z9; clear z9)); (repeat (rename Fr _ _ _ _ => z9; clear z9)); (repeat (rename IsRange _ _ _ _ _ _ _ _ => z9; clear z9)); (repeat (rename IntsAre _ _ => z9; clear z9))
      intro hp ys nx hj _
      obtain ⟨⟨dv, de⟩, rfl, hq1, hq2⟩ := hj
      rw [List.drop_length] at hq1
      rw [List.take_length] at hq2
      cases hq1
      intro D9 h9 tk9 F9 N9 o9
      k_steps
      refine fin _ _ ?_
      k_steps
      have hD : D9 ∉ [lx, dx, pb, hl, hx, hdx] := by
        obtain ⟨-, -, e1, e2, e3, e4, e5, e6, -⟩ := o9
        simp only [List.mem_cons, List.not_mem_nil, or_false, not_or]
        exact ⟨Ne.symm e1, Ne.symm e2, Ne.symm e3, Ne.symm e4, Ne.symm e5, Ne.symm e6⟩
      refine hret _ _ _ (fun b o e hb => Fr.keep (by with_reducible assumption) b o (kG' b o e hb)) ⟨⟨D9, ys, _, rfl, hq2, (N9 _ (.head _)).1, ?_⟩, de, (N9 (pb, _) (List.mem_of_getElem? (i := 5) rfl)).1, fun q hq hne => (N9 q (List.mem_cons_of_mem _ ?_)).1⟩
      · rcases e : s.heap.get? D9 with _ | o
        · rfl
        · have := kG' _ _ e hD
          rw [(N9 _ (.head _)).2.2] at this; cases this
      · simp only [lexSub, hdr3, List.mem_append, List.mem_cons, List.not_mem_nil, or_false] at hq ⊢
        rcases hq with (rfl | rfl | rfl) | (rfl | rfl | rfl)
        · simp
        · simp
        · exact absurd rfl hne
        · simp
        · simp
        · simp
  case turn =>
    (repeat (rename News _ _ _ _ => z9; clear z9)); (repeat (rename Fr _ _ _ _ => z9; clear z9)); (repeat (rename IsRange _ _ _ _ _ _ _ _ => z9; clear z9)); (repeat (rename IntsAre _ _ => z9; clear z9))
    intro R1 z1 I1 o1 i c m t h tk hi hP hm F5 N5 hI5 fin1
    obtain ⟨dv, de⟩ := c
    obtain ⟨w1, w2, tw0, w3⟩ := hm
    (rw [map_put w1] at F5); (rw [map_put w2] at F5); (rw [map_put w3] at F5)
    clear w1 w2 w3
    have hsm := gw_small (r0 := r0) (r1 := r1) (r2 := r2) (r3 := r3) (lo := lo) hq hi hpw
    have hin := growW_in (r0 := r0) (r1 := r1) (r2 := r2) (r3 := r3) (q := q) (lo := lo) (by rcases hq with rfl | rfl | rfl <;> decide) i
    have hW1 : growW r0 r1 r2 r3 q lo (i + 1) = roundW r0 r1 r2 r3 q lo (growW r0 r1 r2 r3 q lo i) (growW r0 r1 r2 r3 q lo i).length := rfl
    generalize growW r0 r1 r2 r3 q lo i = W at hP F5 hsm hin hW1
    have qI : @Ne Nat pb I1 := hI5 (pb, _) (List.mem_of_getElem? (i := 4) rfl)
    revert qI
    revert hW1
    revert hin
    revert hsm
    revert F5
    revert hP
    revert hI5
    revert N5
    revert fin1
    revert hi
    revert R1 z1 I1 o1 i m t h tk dv de tw0 W
    refine eps8 (ne8 ne_post ne_shared ne_nat ne_obj ne_nat ne_map ne_nat ne_heap) ((?_ : ∀ a0 a1 a2 a3 a4 a5 a6 a7, At8 _ a0 a1 a2 a3 a4 a5 a6 a7) _ _ _ _ _ _ _ _)
    intros R1 z1 I1 o1 i m t h
    refine At8.mk ?_
    refine eps4 (ne4 ne_nat ne_vals ne_nat ne_nat) ((?_ : ∀ a0 a1 a2 a3, At4 _ a0 a1 a2 a3) _ _ _ _)
    intros tk dv de tw0
    refine At4.mk ?_
    refine eps_all ((⟨default⟩)) ((?_ : ∀ a, AtE _ a) _)
    intros W
    refine AtE.mk ?_
    intros hi fin1 N5 hI5 hP F5 hsm hin hW1 qI
    refine assign_Name ?_
    (try k_fold)
    k_steps
    refine Hold.on ?_
    (rename News g' L' _ _ => N9)
    (rename Fr g' L' _ _ => F9)
    (rename IsRange _ _ _ _ _ _ _ _ => rg9)
    refine rng_for0 W.length (fun (_ : Nat) (c : GwS) => (I1, o1) :: gwLed lx dx pb tp hx hdx hl L' K n tn hh hkT vs ep2 c1 c2 c)
      (fun k _ m => m (Str.ofString "sides") = some (.ref hx) ∧ m (Str.ofString "row") = some (.ref lr) ∧ (∃ t, m (Str.ofString "t") = some (.int (i : Nat) t)) ∧ ∃ t, m (Str.ofString "fresh") = some (.int ((roundW r0 r1 r2 r3 q lo W k).length : Nat) t))
      (fun k c => StrsAre c.dv ((W.drop k ++ roundW r0 r1 r2 r3 q lo W k).map wordS)) ⟨dv, de⟩ rfl rg9 ⟨rfl, Nat.lt_of_le_of_lt hsm.2 (by decide)⟩ F9 N9 ?h0 ⟨rfl, rfl, ⟨_, rfl⟩, _, rfl⟩ (fun _ _ _ _ => rfl) ?turn2 ?done2 ?hE2 ?ht2
    case h0 => show StrsAre dv ((W ++ []).map wordS); rw [List.append_nil]; exact hP
    case hE2 => passes_own
    case ht2 => intro _ _; rfl
    case done2 =>
      (repeat (rename News _ _ _ _ => z9; clear z9)); (repeat (rename Fr _ _ _ _ => z9; clear z9)); (repeat (rename IsRange _ _ _ _ _ _ _ _ => z9; clear z9)); (repeat (rename IntsAre _ _ => z9; clear z9))
      intro c m h tk hP hm F5 N5
      obtain ⟨w1, w2, -, ⟨_, w3⟩⟩ := hm
      (rw [map_put w1] at F5); (rw [map_put w2] at F5); (rw [map_put w3] at F5)
      clear w1 w2 w3
      rw [List.drop_length, List.nil_append, ← hW1] at hP
      rw [← hW1] at F5
      (try dsimp only)
      (try k_fold)
      k_steps
      (rename Fr g' L' _ _ => F7)
      (rename News g' L' _ _ => N7)
      exact fin1 c _ _ _ hP ⟨rfl, rfl, _, rfl⟩ F7 N7
    case turn2 =>
      (repeat (rename News _ _ _ _ => z9; clear z9)); (repeat (rename Fr _ _ _ _ => z9; clear z9)); (repeat (rename IsRange _ _ _ _ _ _ _ _ => z9; clear z9)); (repeat (rename IntsAre _ _ => z9; clear z9))
      intro R2 z2 I2 o2 k c m t h tk hk hP hm F5 N5 hI5 fin2
      obtain ⟨dv, de⟩ := c
      obtain ⟨w1, w2, ⟨tw3, w3⟩, ⟨tw4, w4⟩⟩ := hm
      (rw [map_put w1] at F5); (rw [map_put w2] at F5); (rw [map_put w3] at F5); (rw [map_put w4] at F5)
      clear w1 w2 w3 w4
      have hds : W[k]? = some W[k] := List.getElem?_eq_getElem hk
      rw [List.drop_eq_getElem_cons hk] at hP
      generalize W[k] = ds at hds hP
      obtain ⟨tw, dv, rfl, hP9⟩ := strs_cons hP
      clear hP
      have qI2 : @Ne Nat pb I2 := hI5 (pb, _) (List.mem_of_getElem? (i := 5) rfl)
      have hzl : dv.length < 1000 := queue_len (ds := ds) (j := 0) hsm (Nat.le_of_lt hk) (by decide) (by rw [show nextW r0 r1 r2 r3 q lo ds 0 = [] from rfl, List.append_nil]; exact hP9)
      have hb := hin ds (List.mem_of_getElem? hds)
      have hwl : (wordS ds).length = i + 1 := by
        simp [wordS, lett, Str.length, hb.1]
      revert hwl
      revert hb
      revert hzl
      revert qI2
      revert hP9
      revert hds
      revert F5
      revert hI5
      revert N5
      revert fin2
      revert hk
      revert R2 z2 I2 o2 k m t h tk de tw3 tw4 ds tw dv
      refine eps8 (ne8 ne_post ne_shared ne_nat ne_obj ne_nat ne_map ne_nat ne_heap) ((?_ : ∀ a0 a1 a2 a3 a4 a5 a6 a7, At8 _ a0 a1 a2 a3 a4 a5 a6 a7) _ _ _ _ _ _ _ _)
      intros R2 z2 I2 o2 k m t h
      refine At8.mk ?_
      refine eps4 (ne4 ne_nat ne_nat ne_nat ne_nat) ((?_ : ∀ a0 a1 a2 a3, At4 _ a0 a1 a2 a3) _ _ _ _)
      intros tk de tw3 tw4
      refine At4.mk ?_
      refine eps3 (ne3 (⟨default⟩) ne_nat ne_vals) ((?_ : ∀ a0 a1 a2, At3 _ a0 a1 a2) _ _ _)
      intros ds tw dv
      refine At3.mk ?_
      intros hk fin2 N5 hI5 F5 hds hP9 qI2 hzl hb hwl
      refine assign_Name ?_
      (try k_fold)
      k_steps
      refine Hold.on ?_
      (rename Fr g' L' _ _ => F4)
      (rename News g' L' _ _ => N4)
      k_dflt (refine' (use_pop (ws := dv)) ?k1 ?k2 ?k3 ?k4 ?k5 ?k6 ?m1 ?m2 ?U ?hz ?ne ?kd ?ku ?_; (case k1 => k_asm); (case k2 => k_asm); (case k3 => k_asm); (case k4 => k_asm); (case k5 => first | exact rfl | assumption); (case k6 => with_reducible assumption); (case m1 => k_mem); (case m2 => k_mem); (case U => k_upd); (case ne => assumption); (case kd => ktr_room); (case ku => ktr_units))
      case hz => exact hzl
      intro h9 tk9 F9 N9
      clear F4 N4
      (try dsimp only)
      (try k_fold)
      k_steps
      refine Hold.on ?_
      refine cp_comp (by with_reducible assumption) (by with_unfolding_all rfl) (by decide) rfl (by decide) ?_
      k_steps
      refine Hold.on ?_
      rw [wordS_tail]
      (rename Fr g' L' _ _ => F8)
      (rename News g' L' _ _ => N8)
      refine cp_enumS (fun i9 ys nx => nx = _ ∧ IntsAre ys ((termsP ds q).take i9)) rfl (by rw [lett_size, hb.1, sizeLine_eq]; omega) rfl rfl rfl (by decide) F8 N8 ⟨rfl, .nil⟩ ?turn9 ?done9
      case turn9 =>
        (repeat (rename News _ _ _ _ => z9; clear z9)); (repeat (rename Fr _ _ _ _ => z9; clear z9)); (repeat (rename IsRange _ _ _ _ _ _ _ _ => z9; clear z9)); (repeat (rename IntsAre _ _ => z9; clear z9))
        intro I9 i9 c9 u9 t9 ys nx oE oI' oC C D9 m₂ h9 tk9 hp9 E9 hv hj hadr hoC ha hb9 F9 N9 l1 l2 l3
        refine cut fun R9 fin9 => ?_
        obtain ⟨rfl, hj⟩ := hj
        k_steps
        refine Hold.on ?_
        obtain ⟨d, hd9, rfl⟩ := lett_at hv
        have hi9 : i9 < i := by rw [← hb.1]; exact (List.getElem?_eq_some_iff.mp hd9).1
        have hd8 := hb.2 d (List.mem_of_getElem? hd9)
        refine pow_nice (B := q) (k := i9) rfl rfl (by omega) (qp5 hq).2 fun _ _ => ?_
        k_steps
        refine Hold.on ?_
        refine mul_nice (B := d) (C := q ^ i9) (by omega) rfl (qp_nice hq (by omega)) fun _ _ => ?_
        k_steps
        (rename News g' L' _ _ => N7)
        refine fin9 _ _ (CpEnd.intro _ (by with_reducible assumption) N7 (fun p hp => hp) rfl ⟨rfl, ?_⟩)
        rw [termsP_snoc hd9]
        exact ksk_snoc hj
      case done9 =>
        (repeat (rename News _ _ _ _ => z9; clear z9)); (repeat (rename Fr _ _ _ _ => z9; clear z9)); (repeat (rename IsRange _ _ _ _ _ _ _ _ => z9; clear z9)); (repeat (rename IntsAre _ _ => z9; clear z9))
        intro hp ys nx hj _
        obtain ⟨rfl, hj⟩ := hj
        intro D9 h9 tk9 F9 N9 o9
        have hj' : IntsAre ys (termsP ds q) := by
          rw [lett_size] at hj
          have e : (termsP ds q).length = ds.length := by simp [termsP]
          rwa [List.take_of_length_le (by omega)] at hj
        clear hj
        k_steps
        refine Hold.on ?_
        rw [wordS_tail]
        have hst := strip_len hb
        have hnz := nz_le hb
        refine strip_A (cs := ds.map fun d => 65 + d.toNat) (by rw [List.length_map, hb.1]; omega) fun _ _ => ?_
        generalize (ds.map fun d => 65 + d.toNat).dropWhile (· == 65) = cs9 at hst ⊢
        have hcl : (⟨cs9.toArray⟩ : Str).length = cs9.length := by simp [Str.length]
        (try dsimp only)
        (try k_fold)
        k_steps
        refine Hold.on ?_
        refine mul_A (n := nz ds) (by omega) (by omega) fun _ _ => ?_
        (try dsimp only)
        (try k_fold)
        k_steps
        refine Hold.on ?_
        (rename Fr g' L' _ _ => F4)
        (rename News g' L' _ _ => N4)
        k_dflt (refine' use_hget (lo := lo) (j := nz ds) (by omega) (by omega) hv ?k1 ?k2 ?k3 ?k4 ?k5 (fun p hp => N4 p (.tail _ hp)) ?m1 ?m2 ?m3 n1 i2 ?kd ?ku ?_; (case k1 => k_asm); (case k2 => k_asm); (case k3 => k_asm); (case k4 => k_asm); (case k5 => first | exact rfl | assumption); (case m1 => k_mem); (case m2 => k_mem); (case m3 => k_mem); (case kd => ktr_room); (case ku => ktr_units))
        intro t9 h9 tk9 F9 N9
        clear F4 N4
        have hlo9 := hlo (nz ds) (by omega)
        (try dsimp only)
        (try k_fold)
        k_steps
        refine Hold.on ?_
        k_dflt (refine' cl_pure (cl_number _ _) ?k1 ?k2 ?k3 ?k4 ?k5 ?k6 ?kp ?kd ?ku ?_; (case k1 => k_asm); (case k2 => k_asm); (case k3 => k_asm); (case k4 => k_asm); (case k5 => first | exact rfl | assumption); (case k6 => k_asm); (case kd => ktr_room); (case ku => ktr_units))
        case kp => trivial
        intro v9 h9 tk9 F9 N9 hp9
        obtain ⟨t9, hp9⟩ := hp9
        subst hp9
        rw [numOf_lett (digs_ok hlo9), digs_val]
        (try dsimp only)
        (try k_fold)
        k_steps
        refine Hold.on ?_
        refine pow_nice (B := q) (k := lo (nz ds) + ds.length + 1 - nz ds) rfl (by rw [hb.1]; omega) (by rw [hb.1]; omega) (qp5 hq).2 fun _ _ => ?_
        k_steps
        refine Hold.on ?_
        (rename News g' L' _ _ => N9)
        (rename Fr g' L' _ _ => F9)
        (rename IsRange _ _ _ _ _ _ _ _ => rg9)
        refine rng_for0 q.toNat (fun (_ : Nat) (c : GwS) => (I2, o2) :: (I1, o1) :: gwLed lx dx pb tp hx hdx hl L' K n tn hh hkT vs ep2 c1 c2 c)
          (fun j _ m => m (Str.ofString "sides") = some (.ref hx) ∧ m (Str.ofString "row") = some (.ref lr) ∧ (∃ t, m (Str.ofString "t") = some (.int (i : Nat) t)) ∧ m (Str.ofString "word") = some (.str (wordS ds) tw) ∧ (∃ t, m (Str.ofString "x") = some (.int (xOf q ds) t)) ∧ (∃ t, m (Str.ofString "goal") = some (.int (goalOf q lo ds) t)) ∧
            ∃ t, m (Str.ofString "fresh") = some (.int (((roundW r0 r1 r2 r3 q lo W k).length + (nextW r0 r1 r2 r3 q lo ds j).length : Nat) : Int) t))
          (fun j c => StrsAre c.dv ((W.drop (k + 1) ++ roundW r0 r1 r2 r3 q lo W k ++ nextW r0 r1 r2 r3 q lo ds j).map wordS)) ⟨dv, de + 1⟩ rfl rg9 ⟨(Int.toNat_of_nonneg (by have := (qp5 hq).1; omega)).symm, by have := (qp5 hq).1; omega⟩ F9 N9 ?h03 ⟨rfl, rfl, ⟨_, rfl⟩, rfl, ⟨_, rfl⟩, ⟨_, rfl⟩, _, rfl⟩ (fun _ _ _ _ => rfl) ?turn3 ?done3 ?hE3 ?ht3
        case h03 => show StrsAre dv ((W.drop (k + 1) ++ roundW r0 r1 r2 r3 q lo W k ++ []).map wordS); rw [List.append_nil]; exact hP9
        case hE3 => passes_own
        case ht3 => intro _ _; rfl
        case done3 =>
          (repeat (rename News _ _ _ _ => z9; clear z9)); (repeat (rename Fr _ _ _ _ => z9; clear z9)); (repeat (rename IsRange _ _ _ _ _ _ _ _ => z9; clear z9)); (repeat (rename IntsAre _ _ => z9; clear z9))
          intro c m h tk hP hm F5 N5
          obtain ⟨w1, w2, ⟨_, w3⟩, -, -, -, ⟨_, w4⟩⟩ := hm
          (rw [map_put w1] at F5); (rw [map_put w2] at F5); (rw [map_put w3] at F5); (rw [map_put w4] at F5)
          clear w1 w2 w3 w4
          have hrs := roundW_succ (r0 := r0) (r1 := r1) (r2 := r2) (r3 := r3) (q := q) (lo := lo) hds
          have hfr : (roundW r0 r1 r2 r3 q lo W k).length + (nextW r0 r1 r2 r3 q lo ds q.toNat).length = (roundW r0 r1 r2 r3 q lo W (k + 1)).length := by rw [hrs, List.length_append]
          rw [hfr] at F5
          rw [List.append_assoc, ← hrs] at hP
          (try dsimp only)
          (try k_fold)
          k_steps
          exact fin2 c _ _ _ hP ⟨rfl, rfl, ⟨_, rfl⟩, _, rfl⟩ F5 N5
        case turn3 =>
          (repeat (rename News _ _ _ _ => z9; clear z9)); (repeat (rename Fr _ _ _ _ => z9; clear z9)); (repeat (rename IsRange _ _ _ _ _ _ _ _ => z9; clear z9)); (repeat (rename IntsAre _ _ => z9; clear z9))
          intro R3 z3 I3 o3 j c m t h tk hj hP hm F5 N5 hI5 fin3
          obtain ⟨dv, de⟩ := c
          obtain ⟨w1, w2, ⟨tw3, w3⟩, w4, ⟨tw5, w5⟩, ⟨tw6, w6⟩, ⟨tw7, w7⟩⟩ := hm
          (rw [map_put w1] at F5); (rw [map_put w2] at F5); (rw [map_put w3] at F5); (rw [map_put w4] at F5); (rw [map_put w5] at F5); (rw [map_put w6] at F5); (rw [map_put w7] at F5)
          clear w1 w2 w3 w4 w5 w6 w7
          have qI3 : @Ne Nat pb I3 := hI5 (pb, _) (List.mem_of_getElem? (i := 6) rfl)
          have hj5 : j < 5 := by have := (qp5 hq).1; omega
          have hX := xOf_bd (by have := (qp5 hq).1; omega) hb
          have hqi := qpow_le hq (n := i) (by omega)
          revert hj5
          revert qI3
          revert F5
          revert hI5
          revert N5
          revert hP
          revert fin3
          revert hj
          revert R3 z3 I3 o3 j m t h tk dv de tw3 tw5 tw6 tw7
          refine eps8 (ne8 ne_post ne_shared ne_nat ne_obj ne_nat ne_map ne_nat ne_heap) ((?_ : ∀ a0 a1 a2 a3 a4 a5 a6 a7, At8 _ a0 a1 a2 a3 a4 a5 a6 a7) _ _ _ _ _ _ _ _)
          intros R3 z3 I3 o3 j m t h
          refine At8.mk ?_
          refine eps4 (ne4 ne_nat ne_vals ne_nat ne_nat) ((?_ : ∀ a0 a1 a2 a3, At4 _ a0 a1 a2 a3) _ _ _ _)
          intros tk dv de tw3
          refine At4.mk ?_
          refine eps3 (ne3 ne_nat ne_nat ne_nat) ((?_ : ∀ a0 a1 a2, At3 _ a0 a1 a2) _ _ _)
          intros tw5 tw6 tw7
          refine At3.mk ?_
          intros hj fin3 hP N5 hI5 F5 qI3 hj5
          refine assign_Name ?_
          (try k_fold)
          k_steps
          refine Hold.on ?_
          refine pow_nice (B := q) (k := ds.length) rfl (by rw [hb.1]) (by rw [hb.1]; omega) (qp5 hq).2 fun _ _ => ?_
          k_steps
          refine Hold.on ?_
          refine mul_nice (B := (j : Int)) (C := q ^ ds.length) rfl rfl (by rw [hb.1]; exact qp_nice hq (by omega)) fun _ _ => ?_
          k_steps
          refine Hold.on ?_
          refine if_cut (keepB r0 r1 r2 r3 q lo ds (j : Int)) (by with_reducible assumption) (by with_reducible assumption) ?cond ?yes ?no
          case cond =>
            intro R4 fin4
            k_steps
            · (rename xOf q ds + (j : Int) * q ^ ds.length = 0 => hz9)
              rw [keep_zero hz9] at fin4
              exact fin4 _ _ (by with_reducible assumption) (by with_reducible assumption)
            · refine Hold.on ?_
              (rename ¬ xOf q ds + (j : Int) * q ^ ds.length = 0 => hz9)
              rw [keep_else hz9] at fin4
              have hg0 : goalOf q lo ds ≠ 0 := pow_ne (by have := (qp5 hq).1; omega) _
              k_dflt (refine' cl_pure (cl_value lr r0 r1 r2 r3 _ a0 a1 a2 a3 _ (by rw [hb.1]; exact further_bd hq (by omega) ⟨hX.1, hX.2⟩ ⟨by omega, by omega⟩)) ?k1 ?k2 ?k3 ?k4 ?k5 ?k6 ?kp ?kd ?ku ?_; (case k1 => k_asm); (case k2 => k_asm); (case k3 => k_asm); (case k4 => k_asm); (case k5 => first | exact rfl | assumption); (case k6 => k_asm); (case kd => ktr_room); (case ku => ktr_units))
              case kp => exact i1.at fun o e => Fr.keep (by with_reducible assumption) _ o e
              intro v9 h9 tk9 F9 N9 hp9
              obtain ⟨t9, hp9⟩ := hp9
              subst hp9
              (try dsimp only)
              (try k_fold)
              k_steps
              refine Hold.on ?_
              k_dflt (refine' cl_pure (cl_mod _ _ _ _ hg0) ?k1 ?k2 ?k3 ?k4 ?k5 ?k6 ?kp ?kd ?ku ?_; (case k1 => k_asm); (case k2 => k_asm); (case k3 => k_asm); (case k4 => k_asm); (case k5 => first | exact rfl | assumption); (case k6 => k_asm); (case kd => ktr_room); (case ku => ktr_units))
              case kp => trivial
              intro v9 h9 tk9 F9 N9 hp9
              obtain ⟨t9, hp9⟩ := hp9
              subst hp9
              (try dsimp only)
              (try k_fold)
              k_steps
              refine Hold.on ?_
              k_dflt (refine' cl_pure (cl_neg _ _) ?k1 ?k2 ?k3 ?k4 ?k5 ?k6 ?kp ?kd ?ku ?_; (case k1 => k_asm); (case k2 => k_asm); (case k3 => k_asm); (case k4 => k_asm); (case k5 => first | exact rfl | assumption); (case k6 => k_asm); (case kd => ktr_room); (case ku => ktr_units))
              case kp => trivial
              intro v9 h9 tk9 F9 N9 hp9
              obtain ⟨t9, hp9⟩ := hp9
              subst hp9
              (try dsimp only)
              (try k_fold)
              k_steps
              refine Hold.on ?_
              k_dflt (refine' cl_pure (cl_mod _ _ _ _ hg0) ?k1 ?k2 ?k3 ?k4 ?k5 ?k6 ?kp ?kd ?ku ?_; (case k1 => k_asm); (case k2 => k_asm); (case k3 => k_asm); (case k4 => k_asm); (case k5 => first | exact rfl | assumption); (case k6 => k_asm); (case kd => ktr_room); (case ku => ktr_units))
              case kp => trivial
              intro v9 h9 tk9 F9 N9 hp9
              obtain ⟨t9, hp9⟩ := hp9
              subst hp9
              (try dsimp only)
              (try k_fold)
              k_steps
              refine Hold.on ?_
              k_dflt (refine' cl_pure (cl_not _ _) ?k1 ?k2 ?k3 ?k4 ?k5 ?k6 ?kp ?kd ?ku ?_; (case k1 => k_asm); (case k2 => k_asm); (case k3 => k_asm); (case k4 => k_asm); (case k5 => first | exact rfl | assumption); (case k6 => k_asm); (case kd => ktr_room); (case ku => ktr_units))
              case kp => trivial
              intro v9 h9 tk9 F9 N9 hp9
              subst hp9
              (try dsimp only)
              (try k_fold)
              k_steps
              · (rename _ ≠ (0 : Int) => hz8)
                have hz8 : Int.fmod (poly r0 r1 r2 r3 (xOf q ds + (j : Int) * q ^ ds.length) - r0) (goalOf q lo ds) - Int.fmod (-r0) (goalOf q lo ds) ≠ 0 := hz8
                rw [bne_no hz8] at fin4
                exact fin4 _ _ (by with_reducible assumption) (by with_reducible assumption)
              · (rename _ = (0 : Int) => hz8)
                have hz8 : Int.fmod (poly r0 r1 r2 r3 (xOf q ds + (j : Int) * q ^ ds.length) - r0) (goalOf q lo ds) - Int.fmod (-r0) (goalOf q lo ds) = 0 := hz8
                rw [bne_yes hz8] at fin4
                exact fin4 _ _ (by with_reducible assumption) (by with_reducible assumption)
          case no =>
            (repeat (rename News _ _ _ _ => z9; clear z9)); (repeat (rename Fr _ _ _ _ => z9; clear z9)); (repeat (rename IsRange _ _ _ _ _ _ _ _ => z9; clear z9)); (repeat (rename IntsAre _ _ => z9; clear z9))
            intro hB h9 tk9 F9 N9
            rw [nextW_no hB] at fin3
            k_steps
            exact fin3 ⟨dv, de⟩ _ _ _ hP ⟨rfl, rfl, ⟨_, rfl⟩, rfl, ⟨_, rfl⟩, ⟨_, rfl⟩, _, rfl⟩ F9 N9
          case yes =>
            (repeat (rename News _ _ _ _ => z9; clear z9)); (repeat (rename Fr _ _ _ _ => z9; clear z9)); (repeat (rename IsRange _ _ _ _ _ _ _ _ => z9; clear z9)); (repeat (rename IntsAre _ _ => z9; clear z9))
            intro hB h9 tk9 F9 N9
            k_steps
            refine Hold.on ?_
            k_dflt (refine' cl_pure (cl_number _ _) ?k1 ?k2 ?k3 ?k4 ?k5 ?k6 ?kp ?kd ?ku ?_; (case k1 => k_asm); (case k2 => k_asm); (case k3 => k_asm); (case k4 => k_asm); (case k5 => first | exact rfl | assumption); (case k6 => k_asm); (case kd => ktr_room); (case ku => ktr_units))
            case kp => trivial
            intro v9 h9 tk9 F9 N9 hp9
            obtain ⟨t9, hp9⟩ := hp9
            subst hp9
            have hwd := word_figs hb (by have := (qp5 hq).1; omega)
            rw [show wordS ds = lett (1 :: ds) from rfl, numOf_lett hwd]
            (try dsimp only)
            (try k_fold)
            k_steps
            refine Hold.on ?_
            refine mul_int ?_ (IntMulOk.of_left (intBits_le_64 (by decide) (by decide)))
            k_steps
            refine Hold.on ?_
            rw [← valD_snoc]
            have hf9 : FigsOk ((1 :: ds) ++ [(j : Int)]) := fun d hd => by
              rcases List.mem_append.mp hd with hd | hd
              · exact hwd d hd
              · rw [List.mem_singleton.mp hd]; omega
            have hl9 : ((1 :: ds) ++ [(j : Int)]).length ≤ 12 := by rw [List.length_append, List.length_cons, hb.1, List.length_singleton]; omega
            k_dflt (refine' cl_pure (cl_ap _ hf9 (fun d r e => by injection e with e _; rw [← e]; decide) _ hl9) ?k1 ?k2 ?k3 ?k4 ?k5 ?k6 ?kp ?kd ?ku ?_; (case k1 => k_asm); (case k2 => k_asm); (case k3 => k_asm); (case k4 => k_asm); (case k5 => first | exact rfl | assumption); (case k6 => k_asm); (case kd => ktr_room); (case ku => ktr_units))
            case kp => trivial
            intro v9 h9 tk9 F9 N9 hp9
            obtain ⟨t9, hp9⟩ := hp9
            subst hp9
            (try dsimp only)
            (try k_fold)
            k_steps
            refine Hold.on ?_
            refine decode_ap hf9 hl9 fun _ _ => ?_
            rw [show lett ((1 :: ds) ++ [(j : Int)]) = wordS (ds ++ [(j : Int)]) from rfl]
            (try dsimp only)
            (try k_fold)
            k_steps
            refine Hold.on ?_
            (rename Fr g' L' _ _ => F4)
            (rename News g' L' _ _ => N4)
            k_dflt (refine' (use_push (ws := dv)) ?k1 ?k2 ?k3 ?k4 ?k5 ?k6 ?m1 ?m2 ?U ?hz ?ne ?kd ?ku ?_; (case k1 => k_asm); (case k2 => k_asm); (case k3 => k_asm); (case k4 => k_asm); (case k5 => first | exact rfl | assumption); (case k6 => with_reducible assumption); (case m1 => k_mem); (case m2 => k_mem); (case U => k_upd); (case ne => assumption); (case kd => ktr_room); (case ku => ktr_units))
            case hz => exact queue_len (j := j) hsm (Nat.le_of_lt hk) (by omega) hP
            intro h9 tk9 F9 N9
            clear F4 N4
            (try dsimp only)
            (try k_fold)
            k_steps
            rw [nextW_yes hB, List.length_append, List.length_singleton, ← Nat.add_assoc] at fin3
            (rename Fr g' L' _ _ => F7)
            (rename News g' L' _ _ => N7)
            refine fin3 ⟨dv ++ [.str (wordS (ds ++ [(j : Int)])) _], de + 1⟩ _ _ _ ?gP ⟨rfl, rfl, ⟨_, rfl⟩, rfl, ⟨_, rfl⟩, ⟨_, rfl⟩, _, rfl⟩ F7 N7
            case gP =>
              rw [← List.append_assoc, List.map_append]
              exact hP.snoc _ _
end Mine
-- EqL
namespace Mine
theorem strs_reads {h : Heap} : ∀ {vs : List Value} {ts : List Str}, StrsAre vs ts → ReadsAll h vs (ts.map PyData.str) []
  | _, _, .nil => .nil
  | _, _, .cons x t r => .cons (as := []) (bs := []) (.str x t) (strs_reads r)
theorem strs_lay : ∀ ts : List Str, (∀ x ∈ ts, PyData.strOk x = true) → PyData.canLayAll0 (ts.map PyData.str) = true ∧ PyData.depthAll (ts.map PyData.str) = 0
  | [], _ => ⟨rfl, rfl⟩
  | x :: r, h => by simp [PyData.canLayAll0, PyData.canLay0, PyData.depthAll, PyData.depth, strs_lay r fun y hy => h y (.tail _ hy), h x (.head _)]
theorem strs_shaped {ts : List Str} (h : ∀ x ∈ ts, PyData.strOk x = true) : SeqAt.shaped (.list (ts.map PyData.str)) = true := by
  simp [SeqAt.shaped, PyData.canLay0, PyData.depth, strs_lay ts h]
section
variable {prog : Program} {w : World} {A : Around} {E : Value → Shared → Prop} {s : Shared} {a b : Addr} {Q : Value → Shared → Prop}
/-- two lists of the same texts -/
theorem eq_strs {xs ys : List Value} {ts : List Str} (ha : s.heap.IsList a xs.toArray) (hb : s.heap.IsList b ys.toArray) (hx : StrsAre xs ts) (hy : StrsAre ys ts) (ok : ∀ x ∈ ts, PyData.strOk x = true) (hu : A.units + 64 < cLine) (h : Q (.bool true) s) :
    wpAny (model prog w) A (compareOp .Eq (.ref a) (.ref b)) Q E s := by
  obtain ⟨o1, e1, c1, n1, d1⟩ := ha
  obtain ⟨o2, e2, c2, n2, d2⟩ := hb
  refine eq_dataH (reads_list_at e1 c1 d1 (strs_reads hx)) (reads_list_at e2 c2 d2 (strs_reads hy)) (strs_shaped ok) (strs_shaped ok) hu ?_
  rw [SeqAt.eqv_refl _ (SeqAt.canLay_of_shaped (strs_shaped ok))]
  exact h
end
noncomputable abbrev pairD (f : Nat → Str × Str) (j : Nat) : PyData := .tuple [.str (f j).1, .str (f j).2]
theorem pairs_lay {f : Nat → Str × Str} (ok : ∀ j, PyData.strOk (f j).1 = true ∧ PyData.strOk (f j).2 = true) : ∀ js : List Nat, PyData.canLayAll0 (js.map (pairD f)) = true ∧ PyData.depthAll (js.map (pairD f)) ≤ 1
  | [] => ⟨rfl, Nat.zero_le _⟩
  | x :: r => by
    have := pairs_lay ok r
    simp [PyData.canLayAll0, PyData.canLay0, PyData.depthAll, PyData.depth, this, ok x]
theorem pairs_shaped {f : Nat → Str × Str} (ok : ∀ j, PyData.strOk (f j).1 = true ∧ PyData.strOk (f j).2 = true) (js : List Nat) : SeqAt.shaped (.list (js.map (pairD f))) = true := by
  have := pairs_lay ok js
  simp [SeqAt.shaped, PyData.canLay0, PyData.depth, this]
  omega
/-- a list of pairs of texts -/
noncomputable def PairsAre (f : Nat → Str × Str) (h : Heap) (vs : List Value) : Prop := ∀ j v, vs[j]? = some v → ∃ T tx ty, v = .ref T ∧ h.get? T = some (hdrTup (f j).1 (f j).2 tx ty)
theorem pairs_reads {f : Nat → Str × Str} {h : Heap} : ∀ {vs : List Value} (k : Nat), (∀ j v, vs[j]? = some v → ∃ T tx ty, v = .ref T ∧ h.get? T = some (hdrTup (f (k + j)).1 (f (k + j)).2 tx ty)) → ReadsAll h vs ((List.range' k vs.length).map (pairD f)) []
  | [], _, _ => .nil
  | v :: vs, k, hv => by
    obtain ⟨T, tx, ty, rfl, e⟩ := hv 0 v rfl
    rw [List.length_cons, List.range'_succ, List.map_cons]
    refine .cons (as := []) (bs := []) (.tuple e rfl rfl (.cons (as := []) (bs := []) (.str _ tx) (.cons (as := []) (bs := []) (.str _ ty) .nil))) (pairs_reads (k + 1) fun j v hj => ?_)
    have := hv (j + 1) v (by simpa using hj)
    rwa [show k + 1 + j = k + (j + 1) by omega]
section
variable {prog : Program} {w : World} {A : Around} {E : Value → Shared → Prop} {s : Shared} {a b : Addr} {Q : Value → Shared → Prop}
/-- two lists of the same pairs do not differ -/
theorem ne_pairs {f : Nat → Str × Str} {xs ys : List Value} (ha : s.heap.IsList a xs.toArray) (hb : s.heap.IsList b ys.toArray) (hx : PairsAre f s.heap xs) (hy : PairsAre f s.heap ys) (hl : xs.length = ys.length) (ok : ∀ j, PyData.strOk (f j).1 = true ∧ PyData.strOk (f j).2 = true) (hu : A.units + 64 < cLine) (h : Q (.bool false) s) :
    wpAny (model prog w) A (compareOp .NotEq (.ref a) (.ref b)) Q E s := by
  obtain ⟨o1, e1, c1, n1, d1⟩ := ha
  obtain ⟨o2, e2, c2, n2, d2⟩ := hb
  have r1 := pairs_reads (f := f) (h := s.heap) (vs := xs) 0 fun j v hj => by rw [Nat.zero_add]; exact hx j v hj
  have r2 := pairs_reads (f := f) (h := s.heap) (vs := ys) 0 fun j v hj => by rw [Nat.zero_add]; exact hy j v hj
  rw [← hl] at r2
  refine ne_dataH (reads_list_at e1 c1 d1 r1) (reads_list_at e2 c2 d2 r2) (pairs_shaped ok _) (pairs_shaped ok _) hu ?_
  rw [SeqAt.eqv_refl _ (SeqAt.canLay_of_shaped (pairs_shaped ok _))]
  exact h
end
end Mine
-- Pl
namespace Mine
noncomputable def R4 (c0 c1 c2 c3 z : Int) : Int := c0 + c1 * z + c2 * z ^ 2 + c3 * z ^ 3
theorem dvd_add_mul {a b k : Int} : a ∣ b + a * k ↔ a ∣ b := by
  constructor
  · intro h
    have := Int.dvd_sub h (Int.dvd_mul_right a k)
    rwa [Int.add_sub_cancel] at this
  · exact fun h => Int.dvd_add h (Int.dvd_mul_right a k)
/-- Hensel's step -/
theorem hensel {q c0 c1 c2 c3 z st rho f : Int} {s : Nat} (hs : 1 ≤ s) (hq : q ≠ 0) (h1 : R4 c0 c1 c2 c3 z = q ^ s * rho) (h2 : q ∣ (c1 + 2 * c2 * z + 3 * c3 * z ^ 2) - st) :
    q ^ (s + 1) ∣ R4 c0 c1 c2 c3 (z + f * q ^ s) ↔ q ∣ f * st + rho := by
  obtain ⟨m, hm⟩ := h2
  obtain ⟨r, rfl⟩ : ∃ r, s = r + 1 := ⟨s - 1, by omega⟩
  have e : R4 c0 c1 c2 c3 (z + f * q ^ (r + 1)) = q ^ (r + 1) * (f * st + rho) + q ^ (r + 1 + 1) * (f * m + f ^ 2 * q ^ r * (c2 + 3 * c3 * z + c3 * f * q ^ (r + 1))) := by
    have hm' : c1 + 2 * c2 * z + 3 * c3 * z ^ 2 = st + q * m := by omega
    unfold R4 at h1 ⊢
    simp only [Int.pow_succ q] at h1 ⊢
    generalize q ^ r = p at h1 ⊢
    grind
  rw [e, dvd_add_mul, Int.pow_succ]
  exact Int.mul_dvd_mul_iff_left (Int.pow_ne_zero hq)
theorem scaled {q u0 u1 u2 u3 z : Int} {h0 h1 h2 h3 g0 g1 g2 g3 N M : Nat} (e0 : h0 = M + g0) (e1 : h1 + N = M + g1) (e2 : h2 + 2 * N = M + g2) (e3 : h3 + 3 * N = M + g3) :
    poly (u0 * q ^ h0) (u1 * q ^ h1) (u2 * q ^ h2) (u3 * q ^ h3) (q ^ N * z) = q ^ M * R4 (u0 * q ^ g0) (u1 * q ^ g1) (u2 * q ^ g2) (u3 * q ^ g3) z := by
  have a0 : q ^ h0 = q ^ M * q ^ g0 := by rw [e0, Int.pow_add]
  have a1 : q ^ h1 * q ^ N = q ^ M * q ^ g1 := by rw [← Int.pow_add, e1, Int.pow_add]
  have a2 : q ^ h2 * (q ^ N * q ^ N) = q ^ M * q ^ g2 := by rw [← Int.pow_add, ← Int.pow_add, ← Int.pow_add, ← e2, show h2 + (N + N) = h2 + 2 * N by omega]
  have a3 : q ^ h3 * (q ^ N * q ^ N * q ^ N) = q ^ M * q ^ g3 := by rw [← Int.pow_add, ← Int.pow_add, ← Int.pow_add, ← Int.pow_add, ← e3, show h3 + (N + N + N) = h3 + 3 * N by omega]
  unfold R4 poly
  generalize q ^ h0 = b0 at *
  generalize q ^ h1 = b1 at *
  generalize q ^ h2 = b2 at *
  generalize q ^ h3 = b3 at *
  generalize q ^ g0 = d0 at *
  generalize q ^ g1 = d1 at *
  generalize q ^ g2 = d2 at *
  generalize q ^ g3 = d3 at *
  generalize q ^ N = x at *
  generalize q ^ M = y at *
  clear e0 e1 e2 e3
  grind
/-- two terms tie at the least height -/
noncomputable def Tie (q : Int) (i : Nat) (U V c0 c1 c2 c3 : Int) : Prop :=
  (i = 0 ∧ c0 = U ∧ c1 = V ∧ q ∣ c2 ∧ q ∣ c3) ∨ (i = 1 ∧ c1 = U ∧ c2 = V ∧ q ∣ c0 ∧ q ∣ c3) ∨ (i = 2 ∧ c2 = U ∧ c3 = V ∧ q ∣ c0 ∧ q ∣ c1)
theorem tie_steep {q a y U V c0 c1 c2 c3 : Int} {i : Nat} (h : Tie q i U V c0 c1 c2 c3) (ha : q ∣ a * V + U) : q ∣ (c1 + 2 * c2 * (a + q * y) + 3 * c3 * (a + q * y) ^ 2) - a ^ i * V := by
  obtain ⟨m, hm⟩ := ha
  rcases h with ⟨rfl, rfl, rfl, ⟨d2, rfl⟩, ⟨d3, rfl⟩⟩ | ⟨rfl, rfl, rfl, ⟨d2, rfl⟩, ⟨d3, rfl⟩⟩ | ⟨rfl, rfl, rfl, ⟨d2, rfl⟩, ⟨d3, rfl⟩⟩
  · exact ⟨2 * d2 * (a + q * y) + 3 * d3 * (a + q * y) ^ 2, by grind⟩
  · exact ⟨m + 2 * y * c2 + 3 * d3 * (a + q * y) ^ 2, by grind⟩
  · exact ⟨d3 + 2 * a * m + 2 * c2 * y + 6 * c3 * a * y + 3 * c3 * q * y ^ 2, by grind⟩
theorem tie_value {q f U V c0 c1 c2 c3 : Int} {i : Nat} (h : Tie q i U V c0 c1 c2 c3) : ∃ k, R4 c0 c1 c2 c3 f = f ^ i * (f * V + U) + q * k := by
  unfold R4
  rcases h with ⟨rfl, rfl, rfl, ⟨d2, rfl⟩, ⟨d3, rfl⟩⟩ | ⟨rfl, rfl, rfl, ⟨d2, rfl⟩, ⟨d3, rfl⟩⟩ | ⟨rfl, rfl, rfl, ⟨d2, rfl⟩, ⟨d3, rfl⟩⟩
  · exact ⟨d2 * f ^ 2 + d3 * f ^ 3, by grind⟩
  · exact ⟨d2 + d3 * f ^ 3, by grind⟩
  · exact ⟨d2 + d3 * f, by grind⟩
/-- one term alone is least -/
noncomputable def Lone (q : Int) (U c0 c1 c2 c3 : Int) : Prop :=
  (c0 = U ∧ q ∣ c1 ∧ q ∣ c2 ∧ q ∣ c3) ∨ (c1 = U ∧ q ∣ c0 ∧ q ∣ c2 ∧ q ∣ c3) ∨ (c2 = U ∧ q ∣ c0 ∧ q ∣ c1 ∧ q ∣ c3)
theorem lone_value {q f U c0 c1 c2 c3 : Int} (h : Lone q U c0 c1 c2 c3) : ∃ (i : Nat) (k : Int), R4 c0 c1 c2 c3 f = f ^ i * U + q * k := by
  unfold R4
  rcases h with ⟨rfl, ⟨d1, rfl⟩, ⟨d2, rfl⟩, ⟨d3, rfl⟩⟩ | ⟨rfl, ⟨d1, rfl⟩, ⟨d2, rfl⟩, ⟨d3, rfl⟩⟩ | ⟨rfl, ⟨d1, rfl⟩, ⟨d2, rfl⟩, ⟨d3, rfl⟩⟩
  · exact ⟨0, d1 * f + d2 * f ^ 2 + d3 * f ^ 3, by grind⟩
  · exact ⟨1, d1 + d2 * f ^ 2 + d3 * f ^ 3, by grind⟩
  · exact ⟨2, d1 + d2 * f + d3 * f ^ 3, by grind⟩
/-- the heights' shape -/
structure Geo (h0 h1 h2 h3 : Nat) (f0 f1 f2 : Int) : Prop where
  e : (h0 : Int) = h1 + f0 ∧ (h1 : Int) = h2 + f1 ∧ (h2 : Int) = h3 + f2
  l : f1 < f0 ∧ f2 < f1 ∧ -1 ≤ f2 ∧ f2 ≤ 0
theorem q_dvd {q u : Int} {g : Nat} (h : 1 ≤ g) : q ∣ u * q ^ g := by
  obtain ⟨r, rfl⟩ : ∃ r, g = r + 1 := ⟨g - 1, by omega⟩
  exact ⟨u * q ^ r, by rw [Int.pow_succ]; grind⟩
theorem q_one {q u : Int} {g : Nat} (h : g = 0) : u * q ^ g = u := by rw [h, Int.pow_zero, Int.mul_one]
theorem st_eq {A B : Nat} {d : Int} (e : (B : Int) = A + d) (h : d = 0) : A = B := by omega
theorem st_lt {A B : Nat} {d : Int} (e : (B : Int) = A + d) (h : 0 < d) : A < B := by omega
theorem st_gt {A B : Nat} {d : Int} (e : (B : Int) = A + d) (h : d < 0) : B < A := by omega
theorem st_1 {a b n : Nat} {f : Int} (e : (a : Int) = b + f) : ((b + n : Nat) : Int) = (a : Nat) + ((n : Int) - f) := by omega
theorem st_2 {a b n : Nat} {f : Int} (e : (a : Int) = b + f) : ((b + 2 * n : Nat) : Int) = (a + n : Nat) + ((n : Int) - f) := by omega
theorem st_3 {a b n : Nat} {f : Int} (e : (a : Int) = b + f) : ((b + 3 * n : Nat) : Int) = (a + 2 * n : Nat) + ((n : Int) - f) := by omega
noncomputable def lo4 (A B C D : Nat) : Nat := min A (min B (min C D))
theorem lo4_le (A B C D : Nat) : lo4 A B C D ≤ A ∧ lo4 A B C D ≤ B ∧ lo4 A B C D ≤ C ∧ lo4 A B C D ≤ D :=
  have h2 := Nat.min_le_right A (min B (min C D))
  have h3 := Nat.le_trans h2 (Nat.min_le_right B (min C D))
  ⟨Nat.min_le_left .., Nat.le_trans h2 (Nat.min_le_left ..), Nat.le_trans h3 (Nat.min_le_left ..), Nat.le_trans h3 (Nat.min_le_right ..)⟩
theorem le_lo4 {A B C D m : Nat} (h : m ≤ A ∧ m ≤ B ∧ m ≤ C ∧ m ≤ D) : m ≤ lo4 A B C D := Nat.le_min.mpr ⟨h.1, Nat.le_min.mpr ⟨h.2.1, Nat.le_min.mpr h.2.2⟩⟩
theorem lo4_A {A B C D : Nat} (h : A ≤ B ∧ A ≤ C ∧ A ≤ D) : lo4 A B C D = A := Nat.le_antisymm (lo4_le ..).1 (le_lo4 ⟨Nat.le_refl _, h⟩)
theorem lo4_B {A B C D : Nat} (h : B ≤ A ∧ B ≤ C ∧ B ≤ D) : lo4 A B C D = B := Nat.le_antisymm (lo4_le ..).2.1 (le_lo4 ⟨h.1, Nat.le_refl _, h.2⟩)
theorem lo4_C {A B C D : Nat} (h : C ≤ A ∧ C ≤ B ∧ C ≤ D) : lo4 A B C D = C := Nat.le_antisymm (lo4_le ..).2.2.1 (le_lo4 ⟨h.1, h.2.1, Nat.le_refl _, h.2.2⟩)
theorem q_lo1 {q u : Int} {g m : Nat} (h : m < g) : q ∣ u * q ^ (g - m) := q_dvd (Nat.sub_pos_of_lt h)
theorem q_lo0 {q u : Int} {g m : Nat} (h : m = g) : u * q ^ (g - m) = u := q_one (by rw [h, Nat.sub_self])
/-- the four heights at n: where they are least -/
theorem four_at {h0 h1 h2 h3 : Nat} {f0 f1 f2 : Int} (G : Geo h0 h1 h2 h3 f0 f1 f2) (n : Nat) : ∃ A B C D : Nat, A = h0 ∧ B = h1 + n ∧ C = h2 + 2 * n ∧ D = h3 + 3 * n ∧ loAt h0 h1 h2 h3 n = lo4 A B C D ∧
    (B : Int) = A + (n - f0) ∧ (C : Int) = B + (n - f1) ∧ (D : Int) = C + (n - f2) :=
  ⟨_, _, _, _, rfl, rfl, rfl, rfl, rfl, st_1 G.e.1, st_2 G.e.2.1, st_3 G.e.2.2⟩
theorem int_lt {a b : Int} (h : a < b) : 0 < b - a := by omega
theorem int_gt {a b : Int} (h : b < a) : b - a < 0 := by omega
theorem int_eq {a b : Int} (h : a = b) : b - a = 0 := by omega
theorem tie_at {h0 h1 h2 h3 : Nat} {f0 f1 f2 : Int} (G : Geo h0 h1 h2 h3 f0 f1 f2) (q u0 u1 u2 u3 : Int) {i n : Nat} (hi : i ≤ 2) (hn : [f0, f1, f2].getD i 0 = (n : Int)) :
    ∃ g0 g1 g2 g3 : Nat, h0 = loAt h0 h1 h2 h3 n + g0 ∧ h1 + n = loAt h0 h1 h2 h3 n + g1 ∧ h2 + 2 * n = loAt h0 h1 h2 h3 n + g2 ∧ h3 + 3 * n = loAt h0 h1 h2 h3 n + g3 ∧
      Tie q i ([u0, u1, u2, u3].getD i 0) ([u0, u1, u2, u3].getD (i + 1) 0) (u0 * q ^ g0) (u1 * q ^ g1) (u2 * q ^ g2) (u3 * q ^ g3) ∧ [(h0 : Int), h1, h2, h3].getD (i + 1) 0 + ((i + 1 : Nat) : Int) * n = loAt h0 h1 h2 h3 n := by
  have l := G.l
  obtain ⟨A, B, C, D, rA, rB, rC, rD, lo, eB, eC, eD⟩ := four_at G n
  rw [lo, ← rB, ← rC, ← rD]
  subst rA
  have le := lo4_le A B C D
  refine ⟨A - lo4 A B C D, B - lo4 A B C D, C - lo4 A B C D, D - lo4 A B C D, (Nat.add_sub_of_le le.1).symm, (Nat.add_sub_of_le le.2.1).symm, (Nat.add_sub_of_le le.2.2.1).symm, (Nat.add_sub_of_le le.2.2.2).symm, ?_⟩
  rcases i with _ | _ | _ | i
  · have hn : f0 = (n : Int) := hn
    have a := st_eq eB (int_eq hn)
    have b := st_lt eC (int_lt (hn ▸ l.1))
    have c := Nat.lt_trans b (st_lt eD (int_lt (Int.lt_trans l.2.1 (hn ▸ l.1))))
    rw [lo4_A ⟨Nat.le_of_eq a, Nat.le_of_lt (a ▸ b), Nat.le_of_lt (a ▸ c)⟩]
    refine ⟨.inl ⟨rfl, q_lo0 rfl, q_lo0 a, q_lo1 (a ▸ b), q_lo1 (a ▸ c)⟩, ?_⟩
    show (h1 : Int) + ((0 + 1 : Nat) : Int) * n = _
    clear le l lo eB eC eD b c hn
    omega
  · have hn : f1 = (n : Int) := hn
    have a := st_gt eB (int_gt (hn ▸ l.1))
    have b := st_eq eC (int_eq hn)
    have c := st_lt eD (int_lt (hn ▸ l.2.1))
    rw [lo4_B ⟨Nat.le_of_lt a, Nat.le_of_eq b, Nat.le_of_lt (b ▸ c)⟩]
    refine ⟨.inr (.inl ⟨rfl, q_lo0 rfl, q_lo0 b, q_lo1 a, q_lo1 (b ▸ c)⟩), ?_⟩
    show (h2 : Int) + ((0 + 1 + 1 : Nat) : Int) * n = _
    clear le l lo eB eC eD a c hn
    omega
  · have hn : f2 = (n : Int) := hn
    have b := st_gt eC (int_gt (hn ▸ l.2.1))
    have a := Nat.lt_trans b (st_gt eB (int_gt (Int.lt_trans (hn ▸ l.2.1) l.1)))
    have c := st_eq eD (int_eq hn)
    rw [lo4_C ⟨Nat.le_of_lt a, Nat.le_of_lt b, Nat.le_of_eq c⟩]
    refine ⟨.inr (.inr ⟨rfl, q_lo0 rfl, q_lo0 c, q_lo1 a, q_lo1 b⟩), ?_⟩
    show (h3 : Int) + ((0 + 1 + 1 + 1 : Nat) : Int) * n = _
    clear le l lo eB eC eD a b hn
    omega
  · clear lo le eB eC eD hn
    omega
theorem lone_at {h0 h1 h2 h3 : Nat} {f0 f1 f2 : Int} (G : Geo h0 h1 h2 h3 f0 f1 f2) (q u0 u1 u2 u3 : Int) {n : Nat} (n0 : f0 ≠ n) (n1 : f1 ≠ n) (n2 : f2 ≠ n) :
    ∃ g0 g1 g2 g3 : Nat, h0 = loAt h0 h1 h2 h3 n + g0 ∧ h1 + n = loAt h0 h1 h2 h3 n + g1 ∧ h2 + 2 * n = loAt h0 h1 h2 h3 n + g2 ∧ h3 + 3 * n = loAt h0 h1 h2 h3 n + g3 ∧
      ∃ U, (U = u0 ∨ U = u1 ∨ U = u2) ∧ Lone q U (u0 * q ^ g0) (u1 * q ^ g1) (u2 * q ^ g2) (u3 * q ^ g3) := by
  have l := G.l
  obtain ⟨A, B, C, D, rA, rB, rC, rD, lo, eB, eC, eD⟩ := four_at G n
  rw [lo, ← rB, ← rC, ← rD]
  subst rA
  have le := lo4_le A B C D
  refine ⟨A - lo4 A B C D, B - lo4 A B C D, C - lo4 A B C D, D - lo4 A B C D, (Nat.add_sub_of_le le.1).symm, (Nat.add_sub_of_le le.2.1).symm, (Nat.add_sub_of_le le.2.2.1).symm, (Nat.add_sub_of_le le.2.2.2).symm, ?_⟩
  rcases Int.lt_trichotomy f0 n with a | a | a
  · have b := Int.lt_trans l.1 a
    have a := st_lt eB (int_lt a)
    have c := Nat.lt_trans a (st_lt eC (int_lt b))
    have d := Nat.lt_trans c (st_lt eD (int_lt (Int.lt_trans l.2.1 b)))
    rw [lo4_A ⟨Nat.le_of_lt a, Nat.le_of_lt c, Nat.le_of_lt d⟩]
    exact ⟨u0, .inl rfl, .inl ⟨q_lo0 rfl, q_lo1 a, q_lo1 c, q_lo1 d⟩⟩
  · exact absurd a n0
  have a := st_gt eB (int_gt a)
  rcases Int.lt_trichotomy f1 n with b | b | b
  · have d := Int.lt_trans l.2.1 b
    have b := st_lt eC (int_lt b)
    have d := Nat.lt_trans b (st_lt eD (int_lt d))
    rw [lo4_B ⟨Nat.le_of_lt a, Nat.le_of_lt b, Nat.le_of_lt d⟩]
    exact ⟨u1, .inr (.inl rfl), .inr (.inl ⟨q_lo0 rfl, q_lo1 a, q_lo1 b, q_lo1 d⟩)⟩
  · exact absurd b n1
  · have b := st_gt eC (int_gt b)
    have a := Nat.lt_trans b a
    have c : f2 < (n : Int) := Int.lt_iff_le_and_ne.mpr ⟨Int.le_trans l.2.2.2 (Int.natCast_nonneg n), n2⟩
    have c := st_lt eD (int_lt c)
    rw [lo4_C ⟨Nat.le_of_lt a, Nat.le_of_lt b, Nat.le_of_lt c⟩]
    exact ⟨u2, .inr (.inr rfl), .inr (.inr ⟨q_lo0 rfl, q_lo1 a, q_lo1 b, q_lo1 c⟩)⟩
theorem xOf_snoc (q : Int) (ds : List Int) (d : Int) : xOf q (ds ++ [d]) = xOf q ds + d * q ^ ds.length := by
  unfold xOf termsP
  simp [List.zipIdx_append]
theorem xOf_zeros (q : Int) : ∀ n, xOf q (List.replicate n 0) = 0
  | 0 => rfl
  | n + 1 => by rw [List.replicate_succ', xOf_snoc, xOf_zeros q n]; simp
theorem nz_zeros (n : Nat) : nz (List.replicate n 0) = n := by
  unfold nz
  induction n with
  | zero => rfl
  | succ n ih => rw [List.replicate_succ, List.takeWhile_cons]; simp
theorem nz_lead {a : Int} (ha : a ≠ 0) (r : List Int) : ∀ n, nz (List.replicate n 0 ++ a :: r) = n
  | 0 => by unfold nz; simp [List.takeWhile_cons, ha]
  | n + 1 => by
    have := nz_lead ha r n
    unfold nz at this ⊢
    rw [List.replicate_succ, List.cons_append, List.takeWhile_cons]
    simp only [beq_self_eq_true, if_true, List.length_cons, this]
theorem filter_one {p : Nat → Bool} {m : Nat} : ∀ {n : Nat}, m < n → (∀ k, k < n → (p k = true ↔ k = m)) → (List.range n).filter p = [m]
  | 0, h, _ => absurd h (Nat.not_lt_zero _)
  | n + 1, h, hp => by
    rw [List.range_succ, List.filter_append]
    rcases Nat.lt_or_ge m n with q | q
    · rw [filter_one q fun k hk => hp k (by omega)]
      have : p n = false := by
        rcases e : p n with _ | _
        · rfl
        · have := (hp n (by omega)).mp e; omega
      simp [this]
    · have e : m = n := by omega
      subst e
      have : (List.range m).filter p = [] := List.filter_eq_nil_iff.mpr fun k hk e => by
        have hk := List.mem_range.mp hk
        have := (hp k (by omega)).mp e
        omega
      rw [this, List.nil_append]
      have := (hp m (by omega)).mpr rfl
      simp [this]
theorem filter_zero {p : Nat → Bool} {n : Nat} (hn : 0 < n) (hp : ∀ k, k < n → (p k = true ↔ k = 0)) : (List.range n).filter p = [0] := filter_one hn hp
theorem filter_two {p : Nat → Bool} {m : Nat} (h0 : 0 < m) : ∀ {n : Nat}, m < n → (∀ k, k < n → (p k = true ↔ k = 0 ∨ k = m)) → (List.range n).filter p = [0, m]
  | 0, h, _ => absurd h (Nat.not_lt_zero _)
  | n + 1, h, hp => by
    rw [List.range_succ, List.filter_append]
    rcases Nat.lt_or_ge m n with q | q
    · rw [filter_two h0 q fun k hk => hp k (by omega)]
      have : p n = false := by
        rcases e : p n with _ | _
        · rfl
        · have := (hp n (by omega)).mp e; omega
      simp [this]
    · have e : m = n := by omega
      subst e
      rw [filter_zero h0 fun k hk => (hp k (by omega)).trans ⟨fun h => h.resolve_right (by omega), .inl⟩]
      have := (hp m (by omega)).mpr (.inr rfl)
      simp [this]
theorem keep_iff {r0 r1 r2 r3 q : Int} {lo : Nat → Nat} {ds : List Int} {f : Int} (hq : 0 < q) : keepB r0 r1 r2 r3 q lo ds f = true ↔ xOf q ds + f * q ^ ds.length = 0 ∨ goalOf q lo ds ∣ poly r0 r1 r2 r3 (xOf q ds + f * q ^ ds.length) := by
  unfold keepB
  generalize xOf q ds + f * q ^ ds.length = x
  have hG : 0 < goalOf q lo ds := Int.pow_pos hq
  generalize goalOf q lo ds = G at hG
  generalize poly r0 r1 r2 r3 x = P
  have h : 0 ≤ G := Int.le_of_lt hG
  rw [Int.fmod_eq_emod_of_nonneg _ h, Int.fmod_eq_emod_of_nonneg _ h]
  have : ((P - r0) % G - -r0 % G = 0) ↔ G ∣ P := by
    rw [Int.sub_eq_zero, Int.emod_eq_emod_iff_emod_sub_eq_zero, show P - r0 - -r0 = P by omega]
    exact ⟨Int.dvd_of_emod_eq_zero, Int.emod_eq_zero_of_dvd⟩
  simp [this]
theorem qp_pos {q : Int} (hq : QP q) : 0 < q := by rcases hq with rfl | rfl | rfl <;> decide
theorem fm_iff {q x : Int} : Int.fmod x q = 0 ↔ q ∣ x := ⟨Int.dvd_of_fmod_eq_zero, Int.fmod_eq_zero_of_dvd⟩
theorem dvd_of_unit {q a w : Int} (hq : QP q) (ha : Int.fmod a q ≠ 0) {i : Nat} (h : q ∣ a ^ i * w) : q ∣ w := by
  refine Classical.byContradiction fun hw => ?_
  exact unit_mul hq (unit_pow hq ha i) (fun e => hw (fm_iff.mp e)) (fm_iff.mpr h)
theorem small_unit {q f : Int} (h0 : 0 < f) (h1 : f < q) : Int.fmod f q ≠ 0 := by
  rw [Int.fmod_eq_emod_of_nonneg _ (by omega), Int.emod_eq_of_lt (by omega) h1]
  omega
theorem ov_iff {q x y f : Int} (hq : QP q) (hy : Int.fmod y q ≠ 0) (h0 : 0 ≤ f) (h1 : f < q) : q ∣ f * y + x ↔ f = ov (-x) y q := by
  have k := ov_ok (x := -x) hq hy
  constructor
  · intro h
    refine k.2.2 f h0 h1 (fm_iff.mpr ?_)
    rwa [show f * y - -x = f * y + x by omega]
  · rintro rfl
    have := fm_iff.mp k.2.1
    rwa [show ov (-x) y q * y - -x = ov (-x) y q * y + x by omega] at this
theorem pvS_poly (r0 r1 r2 r3 x : Int) : pvS r0 r1 r2 r3 x = poly r0 r1 r2 r3 x := by
  unfold pvS termsP poly
  simp only [List.zipIdx_cons, List.zipIdx_nil, List.map_cons, List.map_nil, List.sum_cons, List.sum_nil]
  grind
/-- what stands of a side's figures after k steps -/
theorem figs_inv {pv : Int → Int} {q c0 c1 c2 c3 : Int} {us hs : List Int} {i n M : Nat} (hq : QP q) (hU : Int.fmod (us.getD (i + 1) 0) q ≠ 0) (hU0 : Int.fmod (us.getD i 0) q ≠ 0) (T : Tie q i (us.getD i 0) (us.getD (i + 1) 0) c0 c1 c2 c3)
    (hP : ∀ z, pv (q ^ n * z) = q ^ M * R4 c0 c1 c2 c3 z) (eM : hs.getD (i + 1) 0 + ((i + 1 : Nat) : Int) * n = M) : ∀ k, ∃ y rho r, (nwFigs pv q us hs i n k).2 = q ^ n * (ov (-(us.getD i 0)) (us.getD (i + 1) 0) q + q * y) ∧
      R4 c0 c1 c2 c3 (ov (-(us.getD i 0)) (us.getD (i + 1) 0) q + q * y) = q ^ (k + 1) * rho ∧ xOf q (List.replicate n 0 ++ (nwFigs pv q us hs i n k).1) = (nwFigs pv q us hs i n k).2 ∧ (nwFigs pv q us hs i n k).1 = ov (-(us.getD i 0)) (us.getD (i + 1) 0) q :: r ∧
      (nwFigs pv q us hs i n (k + 1)).1 = (nwFigs pv q us hs i n k).1 ++ [ov (-rho) (ov (-(us.getD i 0)) (us.getD (i + 1) 0) q ^ i * us.getD (i + 1) 0) q] := by
  have hq0 := qp_pos hq
  have ha := ov_ok (x := -(us.getD i 0)) hq hU
  have hd : q ∣ ov (-(us.getD i 0)) (us.getD (i + 1) 0) q * us.getD (i + 1) 0 + us.getD i 0 := (ov_iff hq hU ha.1.1 ha.1.2).mpr rfl
  have hst : Int.fmod (ov (-(us.getD i 0)) (us.getD (i + 1) 0) q ^ i * us.getD (i + 1) 0) q ≠ 0 := unit_mul hq (unit_pow hq (ov_unit hq hU (unit_neg hq hU0)) i) hU
  have step : ∀ k y rho, (nwFigs pv q us hs i n k).2 = q ^ n * (ov (-(us.getD i 0)) (us.getD (i + 1) 0) q + q * y) → R4 c0 c1 c2 c3 (ov (-(us.getD i 0)) (us.getD (i + 1) 0) q + q * y) = q ^ (k + 1) * rho →
      nwFigs pv q us hs i n (k + 1) = ((nwFigs pv q us hs i n k).1 ++ [ov (-rho) (ov (-(us.getD i 0)) (us.getD (i + 1) 0) q ^ i * us.getD (i + 1) 0) q], (nwFigs pv q us hs i n k).2 + ov (-rho) (ov (-(us.getD i 0)) (us.getD (i + 1) 0) q ^ i * us.getD (i + 1) 0) q * q ^ (n + 1 + k)) := by
    intro k y rho h1 h2
    rw [nwFigs_succ]
    unfold nwStep
    have ee : (hs.getD (i + 1) 0 + ((i : Int) + 1) * n - n + ((n + 1 + k : Nat) : Int)).toNat = M + (k + 1) := by
      have : (((i + 1 : Nat) : Int)) = (i : Int) + 1 := by omega
      rw [this] at eM
      rw [eM]
      omega
    have e2 : Int.fdiv (pv (nwFigs pv q us hs i n k).2) (q ^ (M + (k + 1))) = rho := by
      rw [h1, hP, h2, ← Int.mul_assoc, ← Int.pow_add]
      exact Int.mul_fdiv_cancel_left _ (Int.pow_ne_zero (by omega))
    rw [ee, e2]
  have base : nwFigs pv q us hs i n 0 = ([ov (-(us.getD i 0)) (us.getD (i + 1) 0) q], ov (-(us.getD i 0)) (us.getD (i + 1) 0) q * q ^ n) := rfl
  generalize ov (-(us.getD i 0)) (us.getD (i + 1) 0) q = a at ha hd hst step base ⊢
  intro k
  induction k with
  | zero =>
    obtain ⟨k, hk⟩ := tie_value (f := a) T
    obtain ⟨m, hm⟩ := hd
    have b2 : R4 c0 c1 c2 c3 (a + q * 0) = q ^ (0 + 1) * (a ^ i * m + k) := by
      rw [Int.mul_zero, Int.add_zero, hk, hm]
      grind
    have b1 : (nwFigs pv q us hs i n 0).2 = q ^ n * (a + q * 0) := by rw [base]; grind
    refine ⟨0, _, [], b1, b2, ?_, by rw [base], by rw [step 0 0 _ b1 b2]⟩
    rw [base]
    dsimp only
    rw [xOf_snoc, xOf_zeros, List.length_replicate, Int.zero_add]
  | succ k ih =>
    obtain ⟨y, rho, r, i1, i2, i3, i4, -⟩ := ih
    have e := step k y rho i1 i2
    have hd9 := (ov_ok (x := -rho) hq hst).1
    have hd8 : q ∣ ov (-rho) (a ^ i * us.getD (i + 1) 0) q * (a ^ i * us.getD (i + 1) 0) + rho := (ov_iff hq hst hd9.1 hd9.2).mpr rfl
    generalize ov (-rho) (a ^ i * us.getD (i + 1) 0) q = d at e hd8
    have b1 : (nwFigs pv q us hs i n (k + 1)).2 = q ^ n * (a + q * (y + d * q ^ k)) := by
      rw [e, i1]
      dsimp only
      rw [show n + 1 + k = n + (k + 1) by omega, Int.pow_add, Int.pow_succ]
      grind
    have b3 := (hensel (s := k + 1) (f := d) (by omega) (by omega) i2 (tie_steep T hd)).mpr hd8
    obtain ⟨rho', b3⟩ := b3
    have b2 : R4 c0 c1 c2 c3 (a + q * (y + d * q ^ k)) = q ^ (k + 1 + 1) * rho' := by
      rw [← b3]
      congr 1
      rw [Int.pow_succ]
      grind
    refine ⟨_, _, r ++ [d], b1, b2, ?_, ?_, by rw [step (k + 1) _ _ b1 b2]⟩
    · rw [e]
      dsimp only
      rw [← List.append_assoc, xOf_snoc, i3, List.length_append, List.length_replicate, nw_len]
      rw [show n + 1 + k = n + (k + 1) by omega]
    · rw [e, i4]; rfl
/-- the words that follow a side's word: just one -/
theorem next_side {q u0 u1 u2 u3 : Int} {h0 h1 h2 h3 : Nat} {f0 f1 f2 : Int} (hq : QP q) (hU : UnitsOk [u0, u1, u2, u3] q) (G : Geo h0 h1 h2 h3 f0 f1 f2) {i n : Nat} (hi : i ≤ 2) (hn : [f0, f1, f2].getD i 0 = (n : Int)) (k : Nat) :
    nextW (u0 * q ^ h0) (u1 * q ^ h1) (u2 * q ^ h2) (u3 * q ^ h3) q (loAt h0 h1 h2 h3) (List.replicate n 0 ++ (nwFigs (pvS (u0 * q ^ h0) (u1 * q ^ h1) (u2 * q ^ h2) (u3 * q ^ h3)) q [u0, u1, u2, u3] [(h0 : Int), h1, h2, h3] i n k).1) q.toNat =
      [List.replicate n 0 ++ (nwFigs (pvS (u0 * q ^ h0) (u1 * q ^ h1) (u2 * q ^ h2) (u3 * q ^ h3)) q [u0, u1, u2, u3] [(h0 : Int), h1, h2, h3] i n (k + 1)).1] := by
  have hq0 := qp_pos hq
  obtain ⟨g0, g1, g2, g3, e0, e1, e2, e3, T, eM⟩ := tie_at G q u0 u1 u2 u3 hi hn
  have hP : ∀ z, poly (u0 * q ^ h0) (u1 * q ^ h1) (u2 * q ^ h2) (u3 * q ^ h3) (q ^ n * z) = q ^ (loAt h0 h1 h2 h3 n) * R4 (u0 * q ^ g0) (u1 * q ^ g1) (u2 * q ^ g2) (u3 * q ^ g3) z := fun z => scaled e0 e1 e2 e3
  have hU1 := (hU (i + 1) (by omega)).1
  have hU0 := (hU i (by omega)).1
  obtain ⟨y, rho, r, i1, i2, i3, i4, i5⟩ := figs_inv (pv := pvS (u0 * q ^ h0) (u1 * q ^ h1) (u2 * q ^ h2) (u3 * q ^ h3)) (hs := [(h0 : Int), h1, h2, h3]) hq hU1 hU0 T (fun z => (pvS_poly _ _ _ _ _).trans (hP z)) eM k
  have ha := ov_ok (x := -([u0, u1, u2, u3].getD i 0)) hq hU1
  have hua := ov_unit hq hU1 (unit_neg hq hU0)
  have hd : q ∣ ov (-([u0, u1, u2, u3].getD i 0)) ([u0, u1, u2, u3].getD (i + 1) 0) q * [u0, u1, u2, u3].getD (i + 1) 0 + [u0, u1, u2, u3].getD i 0 := (ov_iff hq hU1 ha.1.1 ha.1.2).mpr rfl
  have hst : Int.fmod (ov (-([u0, u1, u2, u3].getD i 0)) ([u0, u1, u2, u3].getD (i + 1) 0) q ^ i * [u0, u1, u2, u3].getD (i + 1) 0) q ≠ 0 := unit_mul hq (unit_pow hq hua i) hU1
  rw [i5]
  have hlen := nw_len (pvS (u0 * q ^ h0) (u1 * q ^ h1) (u2 * q ^ h2) (u3 * q ^ h3)) q [u0, u1, u2, u3] [(h0 : Int), h1, h2, h3] i n k
  generalize (nwFigs (pvS (u0 * q ^ h0) (u1 * q ^ h1) (u2 * q ^ h2) (u3 * q ^ h3)) q [u0, u1, u2, u3] [(h0 : Int), h1, h2, h3] i n k).1 = ds at *
  generalize (nwFigs (pvS (u0 * q ^ h0) (u1 * q ^ h1) (u2 * q ^ h2) (u3 * q ^ h3)) q [u0, u1, u2, u3] [(h0 : Int), h1, h2, h3] i n k).2 = x at *
  generalize ov (-([u0, u1, u2, u3].getD i 0)) ([u0, u1, u2, u3].getD (i + 1) 0) q = a at *
  have hf := (ov_ok (x := -rho) hq hst).1
  have key : ∀ f, 0 ≤ f → f < q → (keepB (u0 * q ^ h0) (u1 * q ^ h1) (u2 * q ^ h2) (u3 * q ^ h3) q (loAt h0 h1 h2 h3) (List.replicate n 0 ++ ds) f = true ↔ f = ov (-rho) (a ^ i * [u0, u1, u2, u3].getD (i + 1) 0) q) := by
    intro f l0 l1
    have hnz : nz (List.replicate n 0 ++ ds) = n := by
      rw [i4]
      exact nz_lead (fun e => hua (by rw [e]; exact Int.zero_fmod _)) _ _
    have hl : (List.replicate n (0 : Int) ++ ds).length = n + (k + 1) := by rw [List.length_append, List.length_replicate, hlen]
    rw [keep_iff hq0, i3, i1, ← ov_iff hq hst l0 l1, ← hensel (s := k + 1) (f := f) (by omega) (by omega) i2 (tie_steep T hd)]
    unfold goalOf
    rw [hnz, hl]
    have ex : q ^ n * (a + q * y) + f * q ^ (n + (k + 1)) = q ^ n * (a + q * y + f * q ^ (k + 1)) := by rw [Int.pow_add]; grind
    rw [ex, hP, show loAt h0 h1 h2 h3 n + (n + (k + 1)) + 1 - n = loAt h0 h1 h2 h3 n + (k + 1 + 1) by omega, Int.pow_add q (loAt h0 h1 h2 h3 n), Int.mul_dvd_mul_iff_left (Int.pow_ne_zero (by omega))]
    constructor
    · rintro (h | h)
      · exfalso
        have h9 := (Int.mul_eq_zero.mp h).resolve_left (Int.pow_ne_zero (by omega))
        apply hua
        refine fm_iff.mpr ⟨-(y + f * q ^ k), ?_⟩
        rw [Int.pow_succ] at h9
        grind
      · exact h
    · exact .inr
  have hlt : (ov (-rho) (a ^ i * [u0, u1, u2, u3].getD (i + 1) 0) q).toNat < q.toNat := by omega
  unfold nextW
  rw [filter_one hlt fun j hj => (key j (by omega) (by omega)).trans (by omega)]
  simp only [List.map_cons, List.map_nil, List.append_assoc]
  rw [Int.toNat_of_nonneg hf.1]
theorem zero_keep {q u0 u1 u2 u3 : Int} {h0 h1 h2 h3 t g0 g1 g2 g3 : Nat} (hq : QP q) (e0 : h0 = loAt h0 h1 h2 h3 t + g0) (e1 : h1 + t = loAt h0 h1 h2 h3 t + g1) (e2 : h2 + 2 * t = loAt h0 h1 h2 h3 t + g2) (e3 : h3 + 3 * t = loAt h0 h1 h2 h3 t + g3) (f : Int) :
    keepB (u0 * q ^ h0) (u1 * q ^ h1) (u2 * q ^ h2) (u3 * q ^ h3) q (loAt h0 h1 h2 h3) (List.replicate t 0) f = true ↔ f = 0 ∨ q ∣ R4 (u0 * q ^ g0) (u1 * q ^ g1) (u2 * q ^ g2) (u3 * q ^ g3) f := by
  have hq0 := qp_pos hq
  rw [keep_iff hq0, xOf_zeros, List.length_replicate, Int.zero_add, Int.mul_comm f]
  unfold goalOf
  rw [nz_zeros, List.length_replicate, scaled e0 e1 e2 e3, show loAt h0 h1 h2 h3 t + t + 1 - t = loAt h0 h1 h2 h3 t + 1 by omega, Int.pow_succ, Int.mul_dvd_mul_iff_left (Int.pow_ne_zero (by omega)), Int.mul_eq_zero]
  exact ⟨fun h => h.imp (fun h => h.resolve_left (Int.pow_ne_zero (by omega))) id, fun h => h.imp .inr id⟩
theorem next_zero_tie {q u0 u1 u2 u3 : Int} {h0 h1 h2 h3 : Nat} {f0 f1 f2 : Int} (hq : QP q) (hU : UnitsOk [u0, u1, u2, u3] q) (G : Geo h0 h1 h2 h3 f0 f1 f2) {i t : Nat} (hi : i ≤ 2) (hn : [f0, f1, f2].getD i 0 = (t : Int)) :
    nextW (u0 * q ^ h0) (u1 * q ^ h1) (u2 * q ^ h2) (u3 * q ^ h3) q (loAt h0 h1 h2 h3) (List.replicate t 0) q.toNat = [List.replicate (t + 1) 0, List.replicate t 0 ++ [ov (-([u0, u1, u2, u3].getD i 0)) ([u0, u1, u2, u3].getD (i + 1) 0) q]] := by
  have hq0 := qp_pos hq
  obtain ⟨g0, g1, g2, g3, e0, e1, e2, e3, T, -⟩ := tie_at G q u0 u1 u2 u3 hi hn
  have hU1 := (hU (i + 1) (by omega)).1
  have hU0 := (hU i (by omega)).1
  have ha := (ov_ok (x := -([u0, u1, u2, u3].getD i 0)) hq hU1).1
  have hua := ov_unit hq hU1 (unit_neg hq hU0)
  have ha0 : ov (-([u0, u1, u2, u3].getD i 0)) ([u0, u1, u2, u3].getD (i + 1) 0) q ≠ 0 := fun e => hua (by rw [e]; exact Int.zero_fmod _)
  have key : ∀ f, 0 ≤ f → f < q → (keepB (u0 * q ^ h0) (u1 * q ^ h1) (u2 * q ^ h2) (u3 * q ^ h3) q (loAt h0 h1 h2 h3) (List.replicate t 0) f = true ↔ f = 0 ∨ f = ov (-([u0, u1, u2, u3].getD i 0)) ([u0, u1, u2, u3].getD (i + 1) 0) q) := by
    intro f l0 l1
    rw [zero_keep hq e0 e1 e2 e3, ← ov_iff hq hU1 l0 l1]
    obtain ⟨k, hk⟩ := tie_value (f := f) T
    rw [hk, dvd_add_mul]
    constructor
    · rintro (h | h)
      · exact .inl h
      · by_cases hf : f = 0
        · exact .inl hf
        · exact .inr (dvd_of_unit hq (small_unit (by omega) l1) h)
    · rintro (h | h)
      · exact .inl h
      · exact .inr (Int.dvd_trans h (Int.dvd_mul_left _ _))
  unfold nextW
  rw [filter_two (m := (ov (-([u0, u1, u2, u3].getD i 0)) ([u0, u1, u2, u3].getD (i + 1) 0) q).toNat) (by omega) (by omega) fun j hj => (key j (by omega) (by omega)).trans (by omega)]
  simp only [List.map_cons, List.map_nil]
  rw [Int.toNat_of_nonneg ha.1, List.replicate_succ']
  rfl
theorem next_zero_lone {q u0 u1 u2 u3 : Int} {h0 h1 h2 h3 : Nat} {f0 f1 f2 : Int} (hq : QP q) (hU : UnitsOk [u0, u1, u2, u3] q) (G : Geo h0 h1 h2 h3 f0 f1 f2) {t : Nat} (n0 : f0 ≠ t) (n1 : f1 ≠ t) (n2 : f2 ≠ t) :
    nextW (u0 * q ^ h0) (u1 * q ^ h1) (u2 * q ^ h2) (u3 * q ^ h3) q (loAt h0 h1 h2 h3) (List.replicate t 0) q.toNat = [List.replicate (t + 1) 0] := by
  have hq0 := qp_pos hq
  obtain ⟨g0, g1, g2, g3, e0, e1, e2, e3, U, hu, T⟩ := lone_at G q u0 u1 u2 u3 n0 n1 n2
  have hUU : Int.fmod U q ≠ 0 := by
    rcases hu with rfl | rfl | rfl
    · exact (hU 0 (by omega)).1
    · exact (hU 1 (by omega)).1
    · exact (hU 2 (by omega)).1
  have key : ∀ f, 0 ≤ f → f < q → (keepB (u0 * q ^ h0) (u1 * q ^ h1) (u2 * q ^ h2) (u3 * q ^ h3) q (loAt h0 h1 h2 h3) (List.replicate t 0) f = true ↔ f = 0) := by
    intro f l0 l1
    rw [zero_keep hq e0 e1 e2 e3]
    obtain ⟨i, k, hk⟩ := lone_value (f := f) T
    rw [hk, dvd_add_mul]
    constructor
    · rintro (h | h)
      · exact h
      · refine Classical.byContradiction fun hf => ?_
        exact hUU (fm_iff.mpr (dvd_of_unit hq (small_unit (by omega) l1) h))
    · exact .inl
  unfold nextW
  rw [filter_zero (by omega) fun j hj => (key j (by omega) (by omega)).trans (by omega)]
  simp only [List.map_cons, List.map_nil]
  rw [List.replicate_succ']
  rfl
/-- the word of one side after t rounds, if it is there -/
noncomputable def sideW (pv : Int → Int) (q : Int) (us hs : List Int) (i : Nat) (f : Int) (t : Nat) : List (List Int) :=
  if inDepth f t = true then [List.replicate f.toNat 0 ++ (nwFigs pv q us hs i f.toNat (t - (f.toNat + 1))).1] else []
theorem sideW_no {pv : Int → Int} {q : Int} {us hs : List Int} {i : Nat} {f : Int} {t : Nat} (h : ¬ (0 ≤ f ∧ f < t)) : sideW pv q us hs i f t = [] := by
  unfold sideW inDepth
  rw [if_neg]
  simpa using h
theorem sideW_yes {pv : Int → Int} {q : Int} {us hs : List Int} {i n t : Nat} (h : n < t) : sideW pv q us hs i (n : Int) t = [List.replicate n 0 ++ (nwFigs pv q us hs i n (t - (n + 1))).1] := by
  unfold sideW inDepth
  rw [if_pos (by simp; omega), Int.toNat_natCast]
theorem due_sides (pv : Int → Int) (q : Int) (us hs : List Int) (f0 f1 f2 : Int) (t : Nat) :
    (nwDue pv q us hs [f0, f1, f2] t 3).map (fun p => List.replicate p.1 (0 : Int) ++ p.2) = sideW pv q us hs 0 f0 t ++ sideW pv q us hs 1 f1 t ++ sideW pv q us hs 2 f2 t := by
  rw [nwDue_succ, nwDue_succ, nwDue_succ]
  have e : nwDue pv q us hs [f0, f1, f2] t 0 = [] := rfl
  rw [e, List.nil_append, List.map_append, List.map_append]
  unfold sideW
  congr 1
  · congr 1
    · show List.map _ (if inDepth f0 t = true then _ else _) = _
      split <;> rfl
    · show List.map _ (if inDepth f1 t = true then _ else _) = _
      split <;> rfl
  · show List.map _ (if inDepth f2 t = true then _ else _) = _
    split <;> rfl
theorem sideW_next {q u0 u1 u2 u3 : Int} {h0 h1 h2 h3 : Nat} {f0 f1 f2 : Int} (hq : QP q) (hU : UnitsOk [u0, u1, u2, u3] q) (G : Geo h0 h1 h2 h3 f0 f1 f2) {i t : Nat} {f : Int} (hi : i ≤ 2) (hf : [f0, f1, f2].getD i 0 = f) (ne : f ≠ t) :
    (sideW (pvS (u0 * q ^ h0) (u1 * q ^ h1) (u2 * q ^ h2) (u3 * q ^ h3)) q [u0, u1, u2, u3] [(h0 : Int), h1, h2, h3] i f t).flatMap (fun ds => nextW (u0 * q ^ h0) (u1 * q ^ h1) (u2 * q ^ h2) (u3 * q ^ h3) q (loAt h0 h1 h2 h3) ds q.toNat) =
      sideW (pvS (u0 * q ^ h0) (u1 * q ^ h1) (u2 * q ^ h2) (u3 * q ^ h3)) q [u0, u1, u2, u3] [(h0 : Int), h1, h2, h3] i f (t + 1) := by
  by_cases c : 0 ≤ f ∧ f < t
  · obtain ⟨n, rfl⟩ : ∃ n : Nat, f = n := ⟨f.toNat, by omega⟩
    rw [sideW_yes (by omega), sideW_yes (by omega), List.flatMap_cons, List.flatMap_nil, List.append_nil, next_side hq hU G hi hf, show t - (n + 1) + 1 = t + 1 - (n + 1) by omega]
  · rw [sideW_no c, sideW_no (by omega), List.flatMap_nil]
theorem sideW_new {pv : Int → Int} {q : Int} {us hs : List Int} {i t : Nat} : sideW pv q us hs i (t : Int) (t + 1) = [List.replicate t 0 ++ [ov (-(us.getD i 0)) (us.getD (i + 1) 0) q]] := by
  rw [sideW_yes (by omega), Nat.sub_self]
  rfl
/-- the words that wait in the end are Newton's -/
theorem grow_is {q u0 u1 u2 u3 : Int} {h0 h1 h2 h3 : Nat} {f0 f1 f2 : Int} (hq : QP q) (hU : UnitsOk [u0, u1, u2, u3] q) (G : Geo h0 h1 h2 h3 f0 f1 f2) : ∀ t,
    growW (u0 * q ^ h0) (u1 * q ^ h1) (u2 * q ^ h2) (u3 * q ^ h3) q (loAt h0 h1 h2 h3) t = List.replicate t 0 :: (nwDue (pvS (u0 * q ^ h0) (u1 * q ^ h1) (u2 * q ^ h2) (u3 * q ^ h3)) q [u0, u1, u2, u3] [(h0 : Int), h1, h2, h3] [f0, f1, f2] t 3).map fun p => List.replicate p.1 0 ++ p.2
  | 0 => by
    rw [due_sides, sideW_no (by omega), sideW_no (by omega), sideW_no (by omega)]
    rfl
  | t + 1 => by
    have ih := grow_is hq hU G t
    have l := G.l
    rw [growW]
    unfold roundW
    rw [List.take_length, ih, due_sides, due_sides, List.flatMap_cons, List.flatMap_append, List.flatMap_append]
    by_cases c0 : f0 = t
    · rw [next_zero_tie hq hU G (i := 0) (by omega) c0, sideW_next hq hU G (i := 1) (f := f1) (by omega) rfl (by omega), sideW_next hq hU G (i := 2) (f := f2) (by omega) rfl (by omega), sideW_no (f := f0) (by omega), c0, sideW_new]
      rfl
    rw [sideW_next hq hU G (i := 0) (f := f0) (by omega) rfl c0]
    by_cases c1 : f1 = t
    · rw [next_zero_tie hq hU G (i := 1) (by omega) c1, sideW_next hq hU G (i := 2) (f := f2) (by omega) rfl (by omega), sideW_no (f := f1) (by omega), sideW_no (f := f0) (by omega), c1, sideW_new]
      rfl
    rw [sideW_next hq hU G (i := 1) (f := f1) (by omega) rfl c1]
    by_cases c2 : f2 = t
    · rw [next_zero_tie hq hU G (i := 2) (by omega) c2, sideW_no (f := f2) (by omega), sideW_no (f := f0) (by omega), sideW_no (f := f1) (by omega), c2, sideW_new]
      rfl
    rw [sideW_next hq hU G (i := 2) (f := f2) (by omega) rfl c2, next_zero_lone hq hU G c0 c1 c2]
    rfl
theorem wordS_zeros (n : Nat) (ds : List Int) : wordS (List.replicate n 0 ++ ds) = dueW (n, ds) := by
  unfold wordS dueW lett
  have e : Str.ofString "B" = ⟨#[66]⟩ := by decide
  rw [e]
  show (⟨_⟩ : Str) = ⟨#[66] ++ (List.replicate n 65).toArray ++ (ds.map fun d => 65 + d.toNat).toArray⟩
  congr 1
  simp
theorem grow_due {q u0 u1 u2 u3 : Int} {h0 h1 h2 h3 : Nat} {f0 f1 f2 : Int} (hq : QP q) (hU : UnitsOk [u0, u1, u2, u3] q) (G : Geo h0 h1 h2 h3 f0 f1 f2) (t : Nat) :
    (growW (u0 * q ^ h0) (u1 * q ^ h1) (u2 * q ^ h2) (u3 * q ^ h3) q (loAt h0 h1 h2 h3) t).map wordS = dueL (pvS (u0 * q ^ h0) (u1 * q ^ h1) (u2 * q ^ h2) (u3 * q ^ h3)) q [u0, u1, u2, u3] [(h0 : Int), h1, h2, h3] [f0, f1, f2] t 3 := by
  rw [grow_is hq hU G, List.map_cons, List.map_map]
  unfold dueL dueL0
  have e : wordS (List.replicate t 0) = Str.ofString "B" ++ ⟨(List.replicate t 65).toArray⟩ := by
    have := wordS_zeros t []
    rw [List.append_nil] at this
    rw [this]
    unfold dueW
    show Str.mk _ = Str.mk _
    congr 1
  rw [e]
  refine congrArg _ (List.map_congr_left fun p _ => wordS_zeros _ _)
end Mine
-- PlE
namespace Mine
open Builtin.Str StrLaws
/-! the lexer on a page -/
/-- the codes of a word as it is spelled -/
noncomputable def spellC (way : Int) (cs : List Nat) : List Nat := if way = 1 then 34 :: (cs ++ [34]) else if way = 2 then cs.flatMap fun c => [92, c] else if way = 3 then 34 :: 92 :: (cs ++ [34]) else cs
noncomputable def WordOk (cs : List Nat) : Prop := cs ≠ [] ∧ ∀ c ∈ cs, wsC c = false ∧ c ≠ 34 ∧ c ≠ 92
noncomputable def After (r rest : List Nat) : Prop := r = rest ∨ ∃ e, wsC e = true ∧ r = e :: rest
theorem startG_after {r rest : List Nat} (h : After r rest) : startG r = startG rest := by
  rcases h with rfl | ⟨e, he, rfl⟩
  · rfl
  · rw [startG_cons, if_pos he]
theorem bareG_word {e : Nat} (he : wsC e = true) (rest : List Nat) : ∀ (cs tok : List Nat), (∀ c ∈ cs, wsC c = false ∧ c ≠ 34 ∧ c ≠ 92) → bareG (cs ++ e :: rest) tok = some (tok ++ cs, rest)
  | [], tok, _ => by rw [List.nil_append, bareG_cons, if_pos he, List.append_nil]
  | c :: cs, tok, h => by
    have hc := h c (.head _)
    rw [List.cons_append, bareG_cons, if_neg (by rw [hc.1]; decide), if_neg hc.2.2, bareG_word he rest cs _ fun d hd => h d (.tail _ hd), List.append_assoc]
    rfl
theorem bareG_esc {e : Nat} (he : wsC e = true) (rest : List Nat) : ∀ (cs tok : List Nat), bareG ((cs.flatMap fun c => [92, c]) ++ e :: rest) tok = some (tok ++ cs, rest)
  | [], tok => by rw [List.flatMap_nil, List.nil_append, bareG_cons, if_pos he, List.append_nil]
  | c :: cs, tok => by
    rw [List.flatMap_cons]
    show bareG (92 :: c :: ((cs.flatMap fun c => [92, c]) ++ e :: rest)) tok = _
    rw [bareG_cons, if_neg (by decide), if_pos rfl]
    dsimp only
    rw [bareG_esc he rest cs, List.append_assoc]
    rfl
theorem quoteG_word (rest : List Nat) : ∀ (cs tok : List Nat), (∀ c ∈ cs, wsC c = false ∧ c ≠ 34 ∧ c ≠ 92) → quoteG (cs ++ 34 :: rest) tok = some (tok ++ cs, rest)
  | [], tok, _ => by rw [List.nil_append, quoteG_cons, if_pos rfl, List.append_nil]
  | c :: cs, tok, h => by
    have hc := h c (.head _)
    rw [List.cons_append, quoteG_cons, if_neg hc.2.1, if_neg hc.2.2, quoteG_word rest cs _ fun d hd => h d (.tail _ hd), List.append_assoc]
    rfl
theorem lex_word {way : Int} {cs rest : List Nat} {e : Nat} (hw : WordOk cs) (he : wsC e = true) : ∃ r, startG (spellC way cs ++ e :: rest) = some (cs, r) ∧ After r rest := by
  obtain ⟨hn, hc⟩ := hw
  obtain ⟨c, cs, rfl⟩ : ∃ c d, cs = c :: d := by cases cs with | nil => exact absurd rfl hn | cons c d => exact ⟨c, d, rfl⟩
  have h1 := hc c (.head _)
  have h2 : ∀ d ∈ cs, wsC d = false ∧ d ≠ 34 ∧ d ≠ 92 := fun d hd => hc d (.tail _ hd)
  unfold spellC
  split
  · refine ⟨e :: rest, ?_, .inr ⟨e, he, rfl⟩⟩
    rw [List.cons_append, startG_cons, if_neg (by decide), if_pos rfl, List.append_assoc, List.singleton_append, quoteG_word _ _ _ hc]
    rfl
  split
  · refine ⟨rest, ?_, .inl rfl⟩
    rw [List.flatMap_cons]
    show startG (92 :: c :: ((cs.flatMap fun c => [92, c]) ++ e :: rest)) = _
    rw [startG_cons, if_neg (by decide), if_neg (by decide), if_pos rfl]
    dsimp only
    rw [bareG_esc he rest cs]
    rfl
  split
  · refine ⟨e :: rest, ?_, .inr ⟨e, he, rfl⟩⟩
    show startG (34 :: 92 :: c :: ((cs ++ [34]) ++ e :: rest)) = _
    rw [startG_cons, if_neg (by decide), if_pos rfl, quoteG_cons, if_neg (by decide), if_pos rfl]
    dsimp only
    rw [List.append_assoc, List.singleton_append, quoteG_word _ _ _ h2]
    rfl
  · refine ⟨rest, ?_, .inl rfl⟩
    rw [List.cons_append, startG_cons, if_neg (by rw [h1.1]; decide), if_neg h1.2.1, if_neg h1.2.2, bareG_word he rest cs _ h2]
    rfl
theorem esc_len : ∀ cs : List Nat, (cs.flatMap fun c => [92, c]).length = 2 * cs.length
  | [] => rfl
  | c :: r => by rw [List.flatMap_cons, List.length_append, esc_len r, List.length_cons]; simp; omega
theorem spellC_len (way : Int) (cs : List Nat) : (spellC way cs).length ≤ 2 * cs.length + 3 := by
  unfold spellC
  split
  · simp; omega
  split
  · rw [esc_len]; omega
  split
  · simp; omega
  · omega
theorem spellC_nls {way : Int} {cs : List Nat} (h : WordOk cs) : nls (spellC way cs) = 0 := by
  have h0 : ∀ l : List Nat, (∀ c ∈ l, c ≠ 10) → nls l = 0 := fun l h => by
    unfold nls
    rw [List.countP_eq_zero.mpr fun c hc => by simpa using h c hc]
    rfl
  have h1 : ∀ c ∈ cs, c ≠ 10 := fun c hc e => by have := (h.2 c hc).1; rw [e] at this; exact absurd this (by decide)
  refine h0 _ fun c hc => ?_
  unfold spellC at hc
  split at hc
  · simp only [List.mem_cons, List.mem_append, List.not_mem_nil, or_false] at hc
    rcases hc with rfl | hc | rfl
    · decide
    · exact h1 c hc
    · decide
  split at hc
  · simp only [List.mem_flatMap, List.mem_cons, List.not_mem_nil, or_false] at hc
    obtain ⟨d, hd, rfl | rfl⟩ := hc
    · decide
    · exact h1 _ hd
  split at hc
  · simp only [List.mem_cons, List.mem_append, List.not_mem_nil, or_false] at hc
    rcases hc with rfl | rfl | hc | rfl
    · decide
    · decide
    · exact h1 c hc
    · decide
  · exact h1 c hc
theorem nls_append (a b : List Nat) : nls (a ++ b) = nls a + nls b := by
  unfold nls
  rw [List.countP_append]
  omega
/-- a text and its codes -/
theorem spell_codes (way : Int) (cs : List Nat) : spell way ⟨cs.toArray⟩ = ⟨(spellC way cs).toArray⟩ := by
  have e1 : Str.ofString "\"" = ⟨#[34]⟩ := by decide
  have e3 : Str.ofString "\"\\" = ⟨#[34, 92]⟩ := by decide
  have e2 : Str.ofString "\\" = ⟨#[92]⟩ := by decide
  unfold spell spellC
  split
  · rw [e1]
    show (⟨#[34] ++ cs.toArray ++ #[34]⟩ : Str) = _
    congr 1; simp
  split
  · unfold escC
    rw [e2]
    have key : ∀ l : List Nat, Str.join (Str.ofString "") (l.map fun c => (⟨#[92]⟩ : Str) ++ ⟨#[c]⟩) = ⟨(l.flatMap fun c => [92, c]).toArray⟩ := by
      intro l
      induction l with
      | nil => rfl
      | cons c r ih =>
        cases r with
        | nil => rfl
        | cons d r =>
          have e : Str.ofString "" = ⟨#[]⟩ := by decide
          rw [List.map_cons, List.map_cons]
          show ((⟨#[92]⟩ : Str) ++ ⟨#[c]⟩) ++ Str.ofString "" ++ Str.join (Str.ofString "") ((d :: r).map fun c => (⟨#[92]⟩ : Str) ++ ⟨#[c]⟩) = _
          rw [ih, e]
          show (⟨#[92] ++ #[c] ++ #[] ++ ((d :: r).flatMap fun c => [92, c]).toArray⟩ : Str) = _
          congr 1; simp
    exact key _
  split
  · rw [e3, e1]
    show (⟨#[34, 92] ++ cs.toArray ++ #[34]⟩ : Str) = _
    congr 1; simp
  · rfl
/-! letters -/
theorem numOf_skip : ∀ l : List Nat, numOf ((l.dropWhile (· == 65)).map fun c : Nat => (c : Int)) = numOf (l.map fun c : Nat => (c : Int))
  | [] => rfl
  | c :: l => by
    by_cases h : c = 65
    · subst h
      rw [List.dropWhile_cons, if_pos (by simp), numOf_skip l]
      simp [numOf]
    · rw [List.dropWhile_cons, if_neg (by simpa using h)]
theorem fd16 (n : Int) (k : Nat) (h : 0 ≤ n) : Int.fmod (Int.fdiv n (16 ^ k)) 16 = n / 16 ^ k % 16 := by
  have hp : (0 : Int) ≤ 16 ^ k := Int.le_of_lt (Int.pow_pos (by decide))
  rw [Int.fdiv_eq_ediv_of_nonneg _ hp, Int.fmod_eq_emod_of_nonneg _ (by decide)]
theorem letC_eq {n : Int} (h : 0 ≤ n) : letC n = [(65 + n / 65536 % 16).toNat, (65 + n / 4096 % 16).toNat, (65 + n / 256 % 16).toNat, (65 + n / 16 % 16).toNat, (65 + n % 16).toNat] := by
  unfold letC
  simp only [List.map_cons, List.map_nil, fd16 _ _ h]
  simp
theorem toN (x : Int) : (((65 + x % 16).toNat : Nat) : Int) = 65 + x % 16 := by
  have := Int.emod_nonneg x (b := 16) (by decide)
  exact Int.toNat_of_nonneg (by omega)
theorem hornr (a x : Int) (h : 16 * a + x % 16 = x) : 16 * a + (65 + x % 16) - 65 = x := by omega
theorem dv (n a b : Int) (hb : 0 ≤ a) : n / a / b = n / (a * b) := Int.ediv_ediv_of_nonneg hb
theorem numOf_letC {n : Int} (h : 0 ≤ n ∧ n < 1048576) : numOf ((letC n).map fun c : Nat => (c : Int)) = n := by
  rw [letC_eq h.1]
  simp only [List.map_cons, List.map_nil, numOf, List.foldl_cons, List.foldl_nil, toN]
  have e (x : Int) : 16 * (x / 16) + x % 16 = x := Int.mul_ediv_add_emod x 16
  have z : n / 65536 % 16 = n / 65536 := Int.emod_eq_of_lt (Int.ediv_nonneg h.1 (by decide)) (Int.ediv_lt_of_lt_mul (by decide) h.2)
  rw [hornr 0 (n / 65536) (by rw [z, Int.mul_zero, Int.zero_add])]
  rw [show n / 65536 = n / 4096 / 16 from (dv n 4096 16 (by decide)).symm, hornr _ _ (e _)]
  rw [show n / 4096 = n / 256 / 16 from (dv n 256 16 (by decide)).symm, hornr _ _ (e _)]
  rw [show n / 256 = n / 16 / 16 from (dv n 16 16 (by decide)).symm, hornr _ _ (e _), hornr _ _ (e _)]
theorem codes_txt (l : List Nat) : KStt.codes ⟨l.toArray⟩ = l.map fun c : Nat => (c : Int) := by
  show l.toArray.toList.map _ = _
  rfl
theorem d16_in (m : Int) : 65 ≤ (65 + m % 16).toNat ∧ (65 + m % 16).toNat ≤ 80 := by omega
theorem letC_range {n : Int} (h : 0 ≤ n) : ∀ c ∈ letC n, 65 ≤ c ∧ c ≤ 80 := by
  rw [letC_eq h]
  intro c hc
  simp only [List.mem_cons, List.not_mem_nil, or_false] at hc
  rcases hc with rfl | rfl | rfl | rfl | rfl <;> exact d16_in _
theorem slice_tail (c : Nat) (l : List Nat) : Txt.slice ⟨(c :: l).toArray⟩ (some 1) none = ⟨l.toArray⟩ := by
  unfold Txt.slice
  have hl : (⟨(c :: l).toArray⟩ : Str).length = l.length + 1 := by simp [Str.length]
  have e : strSliceIndices (some 1) none 1 (⟨(c :: l).toArray⟩ : Str).length = strSliceIndices (some ((1 : Nat) : Int)) (some ((l.length + 1 : Nat) : Int)) 1 (⟨(c :: l).toArray⟩ : Str).length := by
    rw [hl]
    have z1 : ¬ ((l.length : Int) + 1 < 0) := by omega
    have z2 : max (0 : Int) ((l.length : Int) + 1) = l.length + 1 := by omega
    unfold strSliceIndices
    simp [sliceRange, z1, z2]
  have h := sliced_plain ⟨(c :: l).toArray⟩ (a := 1) (b := l.length + 1) (by omega) (by omega)
  have hlen : (strSliceIndices (some ((1 : Nat) : Int)) (some ((l.length + 1 : Nat) : Int)) 1 (⟨(c :: l).toArray⟩ : Str).length).length = l.length := by
    rw [strSliceIndices_plain (by omega) (by omega)]
    simp
  rw [e, if_neg, h]
  · simp
  · rw [hlen, hl]; simp
theorem slice_head (c : Nat) (l : List Nat) : Txt.slice ⟨(c :: l).toArray⟩ none (some 1) = ⟨#[c]⟩ := by
  unfold Txt.slice
  have hl : (⟨(c :: l).toArray⟩ : Str).length = l.length + 1 := by simp [Str.length]
  have e : strSliceIndices none (some 1) 1 (⟨(c :: l).toArray⟩ : Str).length = strSliceIndices (some ((0 : Nat) : Int)) (some ((1 : Nat) : Int)) 1 (⟨(c :: l).toArray⟩ : Str).length := by
    rw [hl]
    have z1 : min (1 : Int) ((l.length : Int) + 1) = 1 := by omega
    have z2 : min (0 : Int) ((l.length : Int) + 1) = 0 := by omega
    unfold strSliceIndices
    simp [sliceRange, z1, z2]
  have h := sliced_plain ⟨(c :: l).toArray⟩ (a := 0) (b := 1) (by omega) (by omega)
  have hlen : (strSliceIndices (some ((0 : Nat) : Int)) (some ((1 : Nat) : Int)) 1 (⟨(c :: l).toArray⟩ : Str).length).length = 1 := by
    rw [strSliceIndices_plain (by omega) (by omega)]
    simp
  rw [e]
  split
  · rename_i h9
    rw [hlen, hl] at h9
    have : l = [] := by
      have : l.length = 0 := by simpa using h9
      exact List.eq_nil_of_length_eq_zero this
    subst this; rfl
  · rw [h]; simp
/-- a number as the page spells it -/
noncomputable def wordC (r : Int) : List Nat := (if r < 0 then [45] else []) ++ (letC (max r (-r))).dropWhile (· == 65)
theorem drop_mem {l : List Nat} {c : Nat} (h : c ∈ l.dropWhile (· == 65)) : c ∈ l := (List.dropWhile_suffix _).mem h
theorem letN_ne {n : Int} (h : 0 < n ∧ n < 1048576) : (letC n).dropWhile (· == 65) ≠ [] := fun e => by
  have h1 := numOf_letC (n := n) ⟨by omega, h.2⟩
  rw [← numOf_skip, e] at h1
  have : (0 : Int) = n := h1
  omega
theorem wordC_ok {r : Int} (h0 : r ≠ 0) (h : -1048576 < r ∧ r < 1048576) : WordOk (wordC r) := by
  have hm : 0 < max r (-r) ∧ max r (-r) < 1048576 := by omega
  refine ⟨fun e => letN_ne hm (List.append_eq_nil_iff.mp e).2, fun c hc => ?_⟩
  rcases List.mem_append.mp hc with hc | hc
  · split at hc
    · rw [List.mem_singleton.mp hc]; decide
    · cases hc
  · have hr := letC_range (Int.le_of_lt hm.1) c (drop_mem hc)
    refine ⟨?_, by omega, by omega⟩
    unfold wsC
    have a1 : (c == 10) = false := by rw [beq_eq_false_iff_ne]; omega
    have a2 : (c == 9) = false := by rw [beq_eq_false_iff_ne]; omega
    have a3 : (c == 13) = false := by rw [beq_eq_false_iff_ne]; omega
    have a4 : (c == 32) = false := by rw [beq_eq_false_iff_ne]; omega
    rw [a1, a2, a3, a4]; rfl
theorem wordC_len (r : Int) : (wordC r).length ≤ 6 := by
  have h1 : ((letC (max r (-r))).dropWhile (· == 65)).length ≤ 5 := by
    have := (List.dropWhile_suffix (l := letC (max r (-r))) (· == 65)).length_le
    simpa [letC] using this
  unfold wordC
  rw [List.length_append]
  split <;> simp <;> omega
/-- what is read back -/
theorem sgn_word {r : Int} (h0 : r ≠ 0) (h : -1048576 < r ∧ r < 1048576) : sgnOf ⟨(wordC r).toArray⟩ = r := by
  have hm : 0 < max r (-r) ∧ max r (-r) < 1048576 := by omega
  have hn : numOf (((letC (max r (-r))).dropWhile (· == 65)).map fun c : Nat => (c : Int)) = max r (-r) := (numOf_skip _).trans (numOf_letC ⟨by omega, hm.2⟩)
  have em : Str.ofString "-" = ⟨#[45]⟩ := by decide
  unfold sgnOf wordC
  by_cases c : r < 0
  · rw [if_pos c, List.singleton_append, slice_head, slice_tail, em, if_pos (by decide), codes_txt, hn]
    omega
  · rw [if_neg c, List.nil_append]
    obtain ⟨d, l, e⟩ : ∃ d l, (letC (max r (-r))).dropWhile (· == 65) = d :: l := by
      cases e : (letC (max r (-r))).dropWhile (· == 65) with
      | nil => exact absurd e (letN_ne hm)
      | cons d l => exact ⟨d, l, rfl⟩
    have hd := letC_range (n := max r (-r)) (by omega) d (drop_mem (by rw [e]; exact .head _))
    rw [e, slice_head, em, if_neg, codes_txt, ← e, hn]
    · omega
    · intro q
      rw [beq_iff_eq] at q
      injection q with q
      have : d = 45 := by simpa using congrArg (fun a : Array Nat => a.toList) q
      omega
/-! heights -/
theorem pow_dvd_unit {q u : Int} (hq : QP q) (hu : Int.fmod u q ≠ 0) {h k : Nat} : q ^ k ∣ u * q ^ h ↔ k ≤ h := by
  have hq0 := qp_pos hq
  constructor
  · intro hd
    refine Classical.byContradiction fun hk => hu (fm_iff.mpr ?_)
    obtain ⟨j, rfl⟩ : ∃ j, k = j + 1 + h := ⟨k - 1 - h, by omega⟩
    rw [Int.pow_add] at hd
    have h2 := (Int.mul_dvd_mul_iff_right (Int.pow_ne_zero (by omega))).mp hd
    exact Int.dvd_trans ⟨q ^ j, by rw [Int.pow_succ, Int.mul_comm]⟩ h2
  · intro hk
    obtain ⟨j, rfl⟩ : ∃ j, h = j + k := ⟨h - k, by omega⟩
    rw [Int.pow_add, ← Int.mul_assoc]
    exact Int.dvd_mul_left _ _
theorem height_unit {q u : Int} (hq : QP q) (hu : Int.fmod u q ≠ 0) {h : Nat} (h8 : h ≤ 8) : heightOf q (u * q ^ h) = h :=
  height_of h8 fun k _ => fm_iff.trans (pow_dvd_unit hq hu)
theorem tall_unit {q u : Int} (hq : QP q) (hu : Int.fmod u q ≠ 0) {h : Nat} (h8 : h ≤ 8) : Int.fmod (u * q ^ h) (q ^ 9) ≠ 0 := fun e => by
  have := (pow_dvd_unit hq hu).mp (fm_iff.mp e)
  omega
theorem unit_ok {q : Int} (hq : QP q) (x : Int) : Int.fmod (1 + Int.fmod x (q - 1) + q * (Int.fmod (Int.fdiv x (q - 1)) 4 - 2)) q ≠ 0 ∧ -10 ≤ 1 + Int.fmod x (q - 1) + q * (Int.fmod (Int.fdiv x (q - 1)) 4 - 2) ∧ 1 + Int.fmod x (q - 1) + q * (Int.fmod (Int.fdiv x (q - 1)) 4 - 2) ≤ 10 := by
  have h : ∀ a b : Int, 0 ≤ b → Int.fmod a b = a % b := fun a b h => Int.fmod_eq_emod_of_nonneg _ h
  have g : ∀ a b : Int, 0 ≤ b → Int.fdiv a b = a / b := fun a b h => Int.fdiv_eq_ediv_of_nonneg _ h
  rcases hq with rfl | rfl | rfl
  · rw [h _ (2 - 1) (by decide), g _ _ (by decide), h _ 4 (by decide), h _ 2 (by decide)]; omega
  · rw [h _ (3 - 1) (by decide), g _ _ (by decide), h _ 4 (by decide), h _ 3 (by decide)]; omega
  · rw [h _ (5 - 1) (by decide), g _ _ (by decide), h _ 4 (by decide), h _ 5 (by decide)]; omega
theorem row_small {q u : Int} (hq : QP q) {h : Nat} (h7 : h ≤ 7) (hu : -10 ≤ u ∧ u ≤ 10) : -1048576 < u * q ^ h ∧ u * q ^ h < 1048576 := by
  have all : ∀ k : Fin 8, (0 < (2 : Int) ^ k.val ∧ (2 : Int) ^ k.val ≤ 78125) ∧ (0 < (3 : Int) ^ k.val ∧ (3 : Int) ^ k.val ≤ 78125) ∧ (0 < (5 : Int) ^ k.val ∧ (5 : Int) ^ k.val ≤ 78125) := by decide
  have a := all ⟨h, by omega⟩
  have b : 0 < q ^ h ∧ q ^ h ≤ 78125 := by
    rcases hq with rfl | rfl | rfl
    · exact a.1
    · exact a.2.1
    · exact a.2.2
  generalize q ^ h = p at b
  have h4 : (u * p).natAbs ≤ 10 * 78125 := by
    rw [Int.natAbs_mul]
    exact Nat.mul_le_mul (by omega) (by omega)
  omega
theorem row_ne {q u : Int} (hq : QP q) (hu : Int.fmod u q ≠ 0) (h : Nat) : u * q ^ h ≠ 0 := fun e => by
  rcases Int.mul_eq_zero.mp e with e | e
  · rw [e] at hu; exact hu (Int.zero_fmod _)
  · exact Int.pow_ne_zero (by have := qp_pos hq; omega) e
/-- the least height, by the falls -/
theorem cmin (a b : Nat) : ((min a b : Nat) : Int) = min (a : Int) b := by
  rcases Nat.le_total a b with h | h
  · rw [Nat.min_eq_left h, Int.min_eq_left (Int.ofNat_le.mpr h)]
  · rw [Nat.min_eq_right h, Int.min_eq_right (Int.ofNat_le.mpr h)]
theorem mnA (c f k : Int) : min (c + f) (c + k) = c + min k f := by
  rcases Int.le_total k f with h | h
  · rw [Int.min_eq_left h, Int.min_eq_right (Int.add_le_add_left h c)]
  · rw [Int.min_eq_right h, Int.min_eq_left (Int.add_le_add_left h c)]
theorem mnD {x y z : Int} (h : y ≤ x) (e : y = z) : min x y = z := by rw [Int.min_eq_right h, e]
theorem mnB {c g f k m : Int} (hgf : g < f) (hm : m = min k g) : min (c + g + f) (c + k + m) = c + (min k f + m) := by
  subst hm
  rcases Int.le_total k g with h | h
  · rw [Int.min_eq_left h, Int.min_eq_left (Int.le_of_lt (Int.lt_of_le_of_lt h hgf))]
    exact mnD (by omega) (Int.add_assoc ..)
  · rw [Int.min_eq_right h, Int.add_right_comm c k g, mnA, Int.add_comm (min k f) g, Int.add_assoc]
theorem mnC {c g e f k m n : Int} (hge : e < g) (hgf : g < f) (hm : m = min k g) (hn : n = min k e) : min (c + e + g + f) (c + k + (m + n)) = c + (min k f + (m + n)) := by
  subst hm
  rcases Int.le_total k g with h | h
  · rw [Int.min_eq_left h, Int.min_eq_left (Int.le_of_lt (Int.lt_of_le_of_lt h hgf))]
    have hl : n ≤ e := hn ▸ Int.min_le_right k e
    clear hn hge
    exact mnD (by omega) (Int.add_assoc ..)
  · rw [Int.min_eq_right h]
    have hl : n = e := hn.trans (Int.min_eq_right (Int.le_of_lt (Int.lt_of_lt_of_le hge h)))
    subst hl
    clear hn hge h
    rw [show c + n + g + f = c + (g + n) + f by omega, show c + k + (g + n) = c + (g + n) + k by omega, mnA, Int.add_comm (min k f), Int.add_assoc]
theorem lo_falls {h0 h1 h2 h3 : Nat} {f0 f1 f2 : Int} (G : Geo h0 h1 h2 h3 f0 f1 f2) (k : Nat) : (loAt h0 h1 h2 h3 k : Int) = h3 + (min (k : Int) f0 + (min (k : Int) f1 + (min (k : Int) f2 + 0))) := by
  obtain ⟨⟨e0, e1, e2⟩, l0, l1, -, -⟩ := G
  have a2 : ((h2 + 2 * k : Nat) : Int) = (h3 + 2 * k : Int) + f2 := by clear e0 e1 l0 l1; omega
  have a3 : ((h3 + 3 * k : Nat) : Int) = (h3 + 2 * k : Int) + k := by clear e0 e1 e2 l0 l1; omega
  have a1 : ((h1 + k : Nat) : Int) = (h3 + k : Int) + f2 + f1 := by clear e0 l0 l1; omega
  have b : (h3 + 2 * k : Int) + min (k : Int) f2 = (h3 + k : Int) + k + min (k : Int) f2 := by rw [Int.add_assoc (h3 : Int) k k, ← Int.two_mul]
  unfold loAt
  rw [cmin, cmin, cmin, Int.add_zero, a2, a3, mnA, b, a1, mnB l1 rfl, e0, e1, e2, mnC l1 l0 rfl rfl]
theorem letS_small {n : Nat} (h : n ≤ 15) : letS (n : Int) = lett (digs n) := by
  have all : ∀ k : Fin 16, letS ((k.val : Nat) : Int) = lett (digs k.val) := by decide +kernel
  exact all ⟨n, by omega⟩
end Mine
-- CompK
namespace Mine
open PyProof.Rows.LCg
section
variable {prog : Program} {w : World} {A : Around} {E : Value → Shared → Prop} {s : Shared} {h₀ : Heap} {L : Addr} {m : Str → Option Value} {env : Env}
theorem newEnv_cell {x : Str} {scope : Scope} {globals : Addr} {cl : List (Str × Addr)} {qual : Str} {Q : Env → Shared → Prop}
    (hcf : ∀ n cl, cellsFrom n scope.names cl = (x, n) :: cl) (hpc : ∀ h, pushCells h scope.names = h.push { cls := .type "cell", data := .cell none })
    (h : ∀ e : Env, e.locals = s.heap.objs.size → { e with scope := relabel scope env } = compEnvC scope ((x, s.heap.objs.size + 1) :: cl) s.heap.objs.size { env with globals := globals, qual := qual } →
      Q e { s with heap := (s.heap.push { cls := .type "dict", data := .dict #[] }).push { cls := .type "cell", data := .cell none } }) :
    wpAny (model prog w) A (newFunctionEnv scope globals cl [] qual none .none (some env)) Q E s := by
  simp only [newFunctionEnv, Option.isSome_some, if_true]
  refine wpAny_bind (wpAny_alloc ?_)
  refine wpAny_bind (wpAny_layCells _ (fun name kind cells => by cases hkc : kind == NameKind.cell <;> simp [hkc]) _ _ _ _ ?_)
  rw [hcf, hpc, List.forIn_nil]
  refine wpAny_bind (wpAny_pure (wpAny_pure (h _ rfl ?_)))
  unfold compEnvC
  simp only [Heap.size_push]
  rfl
/-- what a comprehension's element must show at its end, where the target is a cell -/
noncomputable def KcEnd (h₀ : Heap) (L : Addr) (m : Str → Option Value) (s : Shared) (own : Led) (adr : List Addr) (K : Value → Led → Prop) (y : Value) (s₂ : Shared) : Prop :=
  ∃ h' tk nx, s₂ = { s with heap := h', toks := tk } ∧ Fr h₀ L h' m ∧ News h₀ L h' (own ++ nx) ∧ nx.map (·.1) = adr ∧ K y nx
/-- a comprehension over range(n) whose one name is a cell -/
theorem cp_cellRng {elt iter : Expr} {x : Str} {px : Pos} {scope : Scope} {cl : List (Str × Addr)} {pos : Pos} {Q : Value → Shared → Prop} (n : Nat) (J : Nat → List Value → Led → Prop) {news : Led} (_F₀ : Fr h₀ L s.heap m) (_N₀ : News h₀ L s.heap news)
    (hclos : closureFor scope env = pure cl) (hkind : scope.kind = .function) (hx : (relabel scope env).names.lookup x = some .cell)
    (hnames : ∀ y ∈ scope.names, y.2 = .local → scope.names.lookup y.1 = some .local)
    (hcf : ∀ n cl, cellsFrom n scope.names cl = (x, n) :: cl) (hpc : ∀ h, pushCells h scope.names = h.push { cls := .type "cell", data := .cell none })
    (hh : A.handled = none) (hz : n < 1000000)
    (first : ∀ R : Value → Shared → Prop, (∀ r h tk t u v, IsRange h r 0 n 1 t u v → Fr h₀ L h m → News h₀ L h news → R (.ref r) { s with heap := h, toks := tk }) → wpAny (model prog w) A (eval iter env) R (fun _ _ => False) s)
    (hJ : J 0 [] news)
    (turn : ∀ (R : Value → Shared → Prop) (z : Shared) (I D C K : Addr) oI oC oK (i : Nat) t ys nx h tk, i < n → J i ys nx → oK.data = .cell (some (.int i t)) → Fr h₀ L h m →
      News h₀ L h ((I, oI) :: (C, oC) :: (D, lst ys) :: (K, oK) :: nx) → (∀ p ∈ nx, @LT.lt Nat _ p.1 I ∨ @LT.lt Nat _ K p.1) → @LT.lt Nat _ I D → @LT.lt Nat _ D C → @LT.lt Nat _ C K →
      (∀ y nx' h' tk', Fr h₀ L h' m → News h₀ L h' ((I, oI) :: (C, oC) :: (D, lst ys) :: (K, oK) :: nx') → (∀ p ∈ nx', @LT.lt Nat _ p.1 I ∨ @LT.lt Nat _ K p.1) → J (i + 1) (ys ++ [y]) nx' → R y { z with heap := h', toks := tk' }) →
      wpAny (model prog w) A (eval elt (compEnvC scope ((x, K) :: cl) C env)) R (fun _ _ => False) { z with heap := h, toks := tk })
    (done : ∀ D ys nx h tk, J n ys nx → Fr h₀ L h m → News h₀ L h ((D, lst ys) :: nx) → Off1 D nx → Q (.ref D) { s with heap := h, toks := tk })
    (hs : ∀ x, foldedSetIterable iter env x = pure x) :
    wpAny (model prog w) A (eval (.ListComp elt [⟨.Name x px, iter, [], 0⟩] scope pos) env) Q E s := by
  revert hs
  revert done
  revert turn
  revert hJ
  revert first
  revert hz
  revert hh
  revert hpc
  revert hcf
  revert hnames
  revert hx
  revert hkind
  revert hclos
  revert _N₀
  revert _F₀
  revert prog w A E s h₀ L m env elt iter x px scope cl pos Q n J news
  change ∀ a0 a1 a2 a3 a4 a5 a6 a7 a8 a9 a10 a11 a12 a13 a14 a15 a16 a17 a18 a19, _
  refine eps16 (ne16 (⟨default⟩) ne_world ne_around ne_post ne_shared ne_heap ne_nat ne_map (⟨default⟩) (⟨default⟩) (⟨default⟩) (⟨default⟩) (⟨default⟩) (⟨default⟩) (⟨default⟩) (⟨default⟩)) ((?_ : ∀ a0 a1 a2 a3 a4 a5 a6 a7 a8 a9 a10 a11 a12 a13 a14 a15, At16 _ a0 a1 a2 a3 a4 a5 a6 a7 a8 a9 a10 a11 a12 a13 a14 a15) _ _ _ _ _ _ _ _ _ _ _ _ _ _ _ _)
  intros prog w A E s h₀ L m env elt iter x px scope cl pos
  refine At16.mk ?_
  refine eps4 (ne4 ne_post ne_nat (⟨default⟩) ne_led) ((?_ : ∀ a0 a1 a2 a3, At4 _ a0 a1 a2 a3) _ _ _ _)
  intros Q n J news
  refine At4.mk ?_
  intros _F₀ _N₀ hclos hkind hx hnames hcf hpc hh hz first hJ turn done hs
  rw [eval_ListComp]
  refine wpAny_comprehension_free (use := none) rfl hs hclos hkind hnames ?_
  refine wpAny_noRaise (first _ fun r h tk t u v hr F N => ?_)
  refine wpAny_pyIter_range hr (small_one (by omega) (by omega) (by omega) (by omega)) ?_
  have hrs : Builtin.Range.rangeSize 0 n 1 = (n : Int) := by rw [rangeSize_nat]; omega
  rw [hrs]
  refine wpAny_newObj_type (newEnv_cell hcf hpc fun ce hce hee => ?_)
  rw [show ({ env with globals := env.globals, qual := env.qual } : Env) = env from rfl] at hee
  rw [hee, hce]
  clear hee hce ce
  dsimp only
  generalize hIo : ({ cls := .type "range_iterator", data := .fields #[rawInt 0, rawInt (n : Int), rawInt 1] } : Obj) = oR
  generalize hI : h.objs.size = I
  have hI' : (h.push oR).objs.size = I + 1 := by rw [Heap.size_push, hI]
  have hD' : ((h.push oR).push { cls := .type "list", dict := none, data := .seq ([] : List Value).toArray }).objs.size = I + 1 + 1 := by rw [Heap.size_push, hI']
  have hC' : (((h.push oR).push { cls := .type "list", dict := none, data := .seq ([] : List Value).toArray }).push { cls := .type "dict", data := .dict #[] }).objs.size = I + 1 + 1 + 1 := by rw [Heap.size_push, hD']
  have hfr : oR.isFreed = false := by rw [← hIo]; rfl
  have g1 : (h.push oR).get? I = some oR := by rw [← hI]; exact Heap.get?_push_size _ hfr
  have g2 : ((h.push oR).push { cls := .type "list", dict := none, data := .seq ([] : List Value).toArray }).get? (I + 1) = some (lst []) := by rw [← hI']; exact Heap.get?_push_size _ rfl
  have g3 : (((h.push oR).push { cls := .type "list", dict := none, data := .seq ([] : List Value).toArray }).push { cls := .type "dict", data := .dict #[] }).get? (I + 1 + 1) = some { cls := .type "dict", data := .dict #[] } := by rw [← hD']; exact Heap.get?_push_size _ rfl
  have g4 : ((((h.push oR).push { cls := .type "list", dict := none, data := .seq ([] : List Value).toArray }).push { cls := .type "dict", data := .dict #[] }).push { cls := .type "cell", data := .cell none }).get? (I + 1 + 1 + 1) = some { cls := .type "cell", data := .cell none } := by rw [← hC']; exact Heap.get?_push_size _ rfl
  rw [hI', hD']
  have up4 : ∀ b o, h.get? b = some o → ((((h.push oR).push { cls := .type "list", dict := none, data := .seq ([] : List Value).toArray }).push { cls := .type "dict", data := .dict #[] }).push { cls := .type "cell", data := .cell none }).get? b = some o := fun b o e => Heap.get?_push_of_some _ (Heap.get?_push_of_some _ (Heap.get?_push_of_some _ (Heap.get?_push_of_some _ e)))
  have e1 := Heap.get?_push_of_some { cls := .type "cell", data := .cell none } (Heap.get?_push_of_some { cls := .type "dict", data := .dict #[] } (Heap.get?_push_of_some { cls := .type "list", dict := none, data := .seq ([] : List Value).toArray } g1))
  have e2 := Heap.get?_push_of_some { cls := .type "cell", data := .cell none } (Heap.get?_push_of_some { cls := .type "dict", data := .dict #[] } g2)
  have e3 := Heap.get?_push_of_some { cls := .type "cell", data := .cell none } g3
  have ns0 : ((((h.push oR).push { cls := .type "list", dict := none, data := .seq ([] : List Value).toArray }).push { cls := .type "dict", data := .dict #[] }).push { cls := .type "cell", data := .cell none }).Ns (I + 1 + 1) (fun _ => none) := by
    have := Heap.Ns.new ((h.push oR).push { cls := .type "list", dict := none, data := .seq ([] : List Value).toArray }) (.type "dict")
    rw [hD'] at this
    exact this.keeps fun b o e => Heap.get?_push_of_some _ e
  generalize ((((h.push oR).push { cls := .type "list", dict := none, data := .seq ([] : List Value).toArray }).push { cls := .type "dict", data := .dict #[] }).push { cls := .type "cell", data := .cell none }) = hp at *
  clear g1 g2 g3 hI' hD' hC'
  have fresh : ∀ a, @LE.le Nat _ I a → h₀.get? a = none := fun a ha => by
    rcases e : h₀.get? a with _ | o'
    · rfl
    · exact absurd (Heap.lt_size (F.keep a o' e)) (by rw [hI]; exact Nat.not_lt.mpr ha)
  have hLlt : @LT.lt Nat _ L I := hI ▸ F.ns.lt
  have nlt : ∀ p ∈ news, @LT.lt Nat _ p.1 I := fun p hp => hI ▸ Heap.lt_size (N p hp).1
  have hLI : ∀ k : Nat, L ≠ I + k := fun k e => by
    have h1 : @LT.lt Nat _ L I := hLlt
    have h2 : @Eq Nat L (I + k) := e
    omega
  have W := range_walks (prog := prog) (w := w) (A := A) (I := I) hh 0 n
  have st0 : IsRangeIter hp I (0 + ((0 : Nat) : Int) * 1) ((n : Int) - ((0 : Nat) : Int)) 1 := by
    subst hIo
    show _ = some _
    simpa using e1
  have nI : I ≠ L := Ne.symm (hLI 0)
  have hkc : (compEnvC scope ((x, I + 1 + 1 + 1) :: cl) (I + 1 + 1) env).scope.kind = .function := hkind
  have loop : codeAny (model prog w) A (.compLoop (.ListComp elt [⟨.Name x px, iter, [], 0⟩] scope pos) 0 (.ref I) (.ref (I + 1)) (compEnvC scope ((x, I + 1 + 1 + 1) :: cl) (I + 1 + 1) env)) (compPost (model prog w) A E none Q (.ref (I + 1)) (I + 1 + 1))
      { s with heap := hp, toks := tk } := by
    refine kcp_loop (fun k s' => ∃ h' tk i ys m' nx oK vK, s' = { s with heap := h', toks := tk } ∧ i ≤ n ∧ k = n + 1 - i ∧ ys.length = i ∧ IsRangeIter h' I (0 + (i : Int) * 1) ((n : Int) - (i : Nat)) 1 ∧ Fr h₀ L h' m ∧ h'.Ns (I + 1 + 1) m' ∧ h'.get? (I + 1 + 1 + 1) = some oK ∧ oK.data = .cell vK ∧ News h₀ L h' ((I + 1, lst ys) :: nx) ∧ (∀ p ∈ nx, @LT.lt Nat _ p.1 I ∨ @LT.lt Nat _ (I + 1 + 1 + 1) p.1) ∧ J i ys nx) ?_ (n + 1)
      ⟨hp, tk, 0, [], _, news, _, _, rfl, Nat.zero_le _, rfl, rfl, st0, F.keeps up4, ns0, g4, rfl, ?_, fun p hp => .inl (nlt p hp), hJ⟩
    · rintro k s' ⟨h', tk', i, ys, m', nx, oK, vK, rfl, hi, rfl, hyl, st, F', hn', hK, hKd, N', hadr, hJ'⟩
      have lts : ∀ p ∈ nx, @Ne Nat p.1 I ∧ @Ne Nat p.1 (I + 1) ∧ @Ne Nat p.1 (I + 1 + 1) ∧ @Ne Nat p.1 (I + 1 + 1 + 1) := fun p hp => by
        have := hadr p hp
        omega
      by_cases hlt : i < n
      · refine W.item i _ _ _ hlt st fun v h₂ tk₂ hP st₂ hk₂ => ?_
        obtain ⟨tv, rfl⟩ := hP
        have up₂ : ∀ c o, c ≠ I → h'.get? c = some o → h₂.get? c = some o := fun c o hc e => hk₂ c o (fun hm => hc (List.mem_singleton.mp hm)) e
        refine wpAny_pure ?_
        have a1 : @Ne Nat (I + 1 + 1) I := by omega
        have a2 : @Ne Nat (I + 1 + 1 + 1) I := by omega
        have a3 : @Ne Nat (I + 1) I := by omega
        refine wpAny_assign_Name (wpAny_storeName_cell (v₀ := vK) (c := I + 1 + 1 + 1) hkc hx (by simp [compEnvC]) ⟨oK, up₂ _ _ a2 hK, hKd⟩ fun h₃ hc₃ hs₃ => ?_)
        obtain ⟨oK₃, hK₃, hKd₃⟩ := hc₃
        have up₃ : ∀ c o, c ≠ I → c ≠ I + 1 + 1 + 1 → h'.get? c = some o → h₃.get? c = some o := fun c o c1 c2 e => hs₃.extBut c o c2 (up₂ c o c1 e)
        have b1 : @Ne Nat (I + 1 + 1) (I + 1 + 1 + 1) := by omega
        have b2 : @Ne Nat (I + 1) (I + 1 + 1 + 1) := by omega
        have b3 : @Ne Nat I (I + 1 + 1 + 1) := by omega
        have old0 : ∀ b o, h₀.get? b = some o → b ≠ I ∧ b ≠ I + 1 + 1 + 1 := fun b o e => ⟨fun q => (by rw [q, fresh _ (Nat.le_refl _)] at e; cases e), fun q => (by rw [q, fresh _ (by omega)] at e; cases e)⟩
        have F₃ : Fr h₀ L h₃ m := ⟨F'.ns.at' fun o e => up₃ _ o (hLI 0) (hLI 3) e, fun c o e => up₃ c o (old0 c o e).1 (old0 c o e).2 (F'.keep c o e), F'.above⟩
        have hn₃ : h₃.Ns (I + 1 + 1) m' := hn'.at' fun o e => up₃ _ o a1 b1 e
        obtain ⟨oC, heC, hoC⟩ := ns_obj hn₃
        have st₃ : IsRangeIter h₃ I (0 + ((i + 1 : Nat) : Int) * 1) ((n : Int) - ((i + 1 : Nat) : Nat)) 1 := hs₃.extBut _ _ b3 st₂
        have nKe : ∀ k : Nat, (I + k : Nat) ≠ L := fun k => Ne.symm (hLI k)
        have N₃ : News h₀ L h₃ ((I, _) :: (I + 1 + 1, oC) :: (I + 1, lst ys) :: (I + 1 + 1 + 1, oK₃) :: nx) := fun q hq => by
          rcases List.mem_cons.mp hq with rfl | hq
          · exact ⟨st₃, nI, fresh _ (Nat.le_refl _)⟩
          rcases List.mem_cons.mp hq with rfl | hq
          · exact ⟨heC, nKe 2, fresh _ (by omega)⟩
          rcases List.mem_cons.mp hq with rfl | hq
          · have z := N' _ (.head _)
            exact ⟨up₃ _ _ a3 b2 z.1, z.2⟩
          rcases List.mem_cons.mp hq with rfl | hq
          · exact ⟨hK₃, nKe 3, fresh _ (by omega)⟩
          · have z := N' q (.tail _ hq)
            have l := lts q hq
            exact ⟨up₃ _ _ l.1 l.2.2.2 z.1, z.2⟩
        refine wpAny_noRaise ?_
        have e0 : (0 : Int) + (i : Int) = i := Int.zero_add _
        rw [e0] at hKd₃
        refine turn _ s I (I + 1) (I + 1 + 1) (I + 1 + 1 + 1) _ oC oK₃ i tv ys nx h₃ tk₂ hlt hJ' hKd₃ F₃ N₃ hadr (Nat.lt_succ_self _) (Nat.lt_succ_self _) (Nat.lt_succ_self _) fun y nx₅ h₅ tk₅ F₅ N₅ hadr₅ hJ₅ => ?_
        have lt5 : ∀ p ∈ nx₅, @Ne Nat p.1 (I + 1) := fun p hp => by
          have := hadr₅ p hp
          omega
        have zD := (N₅ (I + 1, lst ys) (List.mem_of_getElem? (i := 2) rfl)).1
        refine append_at (hsz := by show ys.toArray.size ≤ sizeLine; rw [List.size_toArray, hyl, sizeLine_eq]; omega) zD fun h₆ hs₆ hD₆ => ?_
        refine ⟨n + 1 - (i + 1), by omega, h₆, tk₅, i + 1, ys ++ [y], _, nx₅, oK₃, _, rfl, hlt, rfl, by rw [List.length_append, List.length_singleton, hyl], hs₆.extBut _ _ (Ne.symm a3) (N₅ _ (.head _)).1, F₅.change hs₆ (nKe 1) (fresh _ (by omega)),
          (hoC.ns (N₅ (I + 1 + 1, oC) (List.mem_of_getElem? (i := 1) rfl)).1).sameBut hs₆ (Nat.ne_of_gt (Nat.lt_succ_self _)), hs₆.extBut _ _ (Ne.symm b2) (N₅ (I + 1 + 1 + 1, oK₃) (List.mem_of_getElem? (i := 3) rfl)).1, hKd₃, fun q hq => ?_, hadr₅, hJ₅⟩
        rcases List.mem_cons.mp hq with rfl | hq
        · exact ⟨hD₆.trans (congrArg some (lst_snoc ys y)), nKe 1, fresh _ (by omega)⟩
        · have z := N₅ q (List.mem_cons_of_mem _ (List.mem_cons_of_mem _ (List.mem_cons_of_mem _ (List.mem_cons_of_mem _ hq))))
          exact ⟨hs₆.extBut _ _ (lt5 q hq) z.1, z.2⟩
      · obtain rfl : i = n := Nat.le_antisymm hi (Nat.not_lt.mp hlt)
        refine W.done _ _ _ st fun h₂ tk₂ hk₂ => ?_
        have up₂ : ∀ c o, c ≠ I → h'.get? c = some o → h₂.get? c = some o := fun c o hc e => hk₂ c o (fun hm => hc (List.mem_singleton.mp hm)) e
        have a1 : @Ne Nat (I + 1 + 1) I := by omega
        have a3 : @Ne Nat (I + 1) I := by omega
        have F₂ : Fr h₀ L h₂ m := ⟨F'.ns.at' fun o e => up₂ _ o (hLI 0) e, fun c o e => up₂ c o (fun q => by rw [q, fresh _ (Nat.le_refl _)] at e; cases e) (F'.keep c o e), F'.above⟩
        refine ⟨m', hn'.at' fun o e => up₂ _ o a1 e, fun h'' hs'' => ?_⟩
        refine done (I + 1) ys nx h'' tk₂ hJ' (F₂.change hs'' (Ne.symm (hLI 2)) (fresh _ (by omega))) (fun p hp => ?_) ?_
        · rcases List.mem_cons.mp hp with rfl | hp
          · have z := N' _ (.head _)
            exact ⟨hs''.extBut _ _ (Nat.ne_of_lt (Nat.lt_succ_self _)) (up₂ _ _ a3 z.1), z.2⟩
          · have z := N' p (.tail _ hp)
            have l := lts p hp
            exact ⟨hs''.extBut _ _ l.2.2.1 (up₂ _ _ l.1 z.1), z.2⟩
        · have all : ∀ l : Led, (∀ p ∈ l, @Ne Nat p.1 (I + 1)) → Off1 (I + 1) l := fun l => by
            induction l with
            | nil => exact fun _ => trivial
            | cons a l ih => exact fun h => ⟨h a (.head _), ih fun p hp => h p (.tail _ hp)⟩
          exact all nx fun p hp => (lts p hp).2.1
    · intro p hp
      rcases List.mem_cons.mp hp with rfl | hp
      · exact ⟨e2, Ne.symm (hLI 1), fresh _ (by omega)⟩
      · exact ⟨up4 _ _ (N p hp).1, (N p hp).2⟩
  exact codeAny_compStart_list loop (W.self 0 _ _ _ st0 loop)
end
end Mine
-- CompZ
namespace Mine
open PyProof.Rows.LCg
section
variable {prog : Program} {w : World} {A : Around} {E : Value → Shared → Prop} {s : Shared} {h₀ : Heap} {L : Addr} {m : Str → Option Value} {env : Env}
/-- a block over a list: what is wanted behind an element is a letter -/
theorem cp_lstZ {elt : Expr} {x : Str} {px : Pos} {scope : Scope} {cl : List (Str × Addr)} {Fin : Shared → List Value → Led → Prop} {l : Addr} {vs : List Value} {news : Led} (J : Nat → List Value → Led → Prop)
    (hh : A.handled = none) (hl : s.heap.IsList l vs.toArray) (hsrc : (∃ o, h₀.get? l = some o) ∨ ∃ o, ∀ i ys nx, J i ys nx → (l, o) ∈ nx) (hsz : vs.length ≤ sizeLine) (F : Fr h₀ L s.heap m) (N : News h₀ L s.heap news) (hkind : scope.kind = .function) (hx : scope.names.lookup x = some .local) (hJ : J 0 [] news)
    (turn : ∀ (R : Value → Shared → Prop) (z : Shared) (I : Addr) (i : Nat) (v : Value) (ys : List Value) (nx : Led) (oI oC : Obj) (C D : Addr) (m₂ : Str → Option Value) (h : Heap) (tk : Nat), vs[i]? = some v → J i ys nx → nx.map (·.1) = news.map (·.1) → NsObj oC m₂ → m₂ x = some v → Fr h₀ L h m →
      News h₀ L h ((I, oI) :: (C, oC) :: (D, lst ys) :: nx) → (∀ p ∈ nx, @LT.lt Nat _ p.1 I) → @LT.lt Nat _ I D → @LT.lt Nat _ D C →
      (∀ y nx' h' tk', Fr h₀ L h' m → News h₀ L h' ((I, oI) :: (C, oC) :: (D, lst ys) :: nx') → nx'.map (·.1) = news.map (·.1) → J (i + 1) (ys ++ [y]) nx' → R y { z with heap := h', toks := tk' }) →
      wpAny (model prog w) A (eval elt (compEnvC scope cl C env)) R (fun _ _ => False) { z with heap := h, toks := tk })
    (done : ∀ hp ys nx, J vs.length ys nx → nx.map (·.1) = news.map (·.1) → Fin { s with heap := hp } ys nx) :
    wpAny (model prog w) A (pyIter (.ref l)) (fun it s₂ => BlockT prog w A h₀ L m env elt (.Name x px) scope cl Fin it s₂) E s :=
  cp_lst J hh hl hsrc hsz F N hkind hx hJ (fun I i v ys nx oI C oC D m₂ h tk hp E' a1 a2 a3 a4 a5 a6 a7 a8 a9 a10 =>
    wpAny_noRaise (turn _ _ I i v ys nx oI oC C D m₂ h tk a1 a2 a3 a4 a5 a6 a7 a8 a9 a10 fun y nx' h' tk' F9 N9 ad J9 => CpEnd.intro (own := [(I, oI)]) nx' F9 N9 (fun p hp => hp) ad J9)) done
/-- a block over range(n) -/
theorem cp_rngZ {elt : Expr} {x : Str} {px : Pos} {scope : Scope} {cl : List (Str × Addr)} {Fin : Shared → List Value → Led → Prop} {r : Addr} {b : Int} {t u v : Tok} {n : Nat} {news : Led} (J : Nat → List Value → Led → Prop)
    (hh : A.handled = none) (hr : IsRange s.heap r 0 b 1 t u v) (hn : b = (n : Int) ∧ n < 1000000) (F : Fr h₀ L s.heap m) (N : News h₀ L s.heap news) (hkind : scope.kind = .function) (hx : scope.names.lookup x = some .local) (hJ : J 0 [] news)
    (turn : ∀ (R : Value → Shared → Prop) (z : Shared) (I : Addr) (i : Nat) (t : Tok) (ys : List Value) (nx : Led) (oI oC : Obj) (C D : Addr) (m₂ : Str → Option Value) (h : Heap) (tk : Nat), i < n → J i ys nx → nx.map (·.1) = news.map (·.1) → NsObj oC m₂ → m₂ x = some (.int (i : Int) t) → Fr h₀ L h m →
      News h₀ L h ((I, oI) :: (C, oC) :: (D, lst ys) :: nx) → (∀ p ∈ nx, @LT.lt Nat _ p.1 I) → @LT.lt Nat _ I D → @LT.lt Nat _ D C →
      (∀ y nx' h' tk', Fr h₀ L h' m → News h₀ L h' ((I, oI) :: (C, oC) :: (D, lst ys) :: nx') → nx'.map (·.1) = news.map (·.1) → J (i + 1) (ys ++ [y]) nx' → R y { z with heap := h', toks := tk' }) →
      wpAny (model prog w) A (eval elt (compEnvC scope cl C env)) R (fun _ _ => False) { z with heap := h, toks := tk })
    (done : ∀ hp ys nx, J n ys nx → nx.map (·.1) = news.map (·.1) → Fin { s with heap := hp } ys nx) :
    wpAny (model prog w) A (pyIter (.ref r)) (fun it s₂ => BlockT prog w A h₀ L m env elt (.Name x px) scope cl Fin it s₂) E s := by
  obtain ⟨rfl, hz⟩ := hn
  refine cp_rng J hh hr (small_one (by omega) (by omega) (by omega) (by omega)) (by rw [rangeSize_nat]; omega) (by rw [sizeLine_eq]; omega) F N hkind hx hJ (fun I i t ys nx oI C oC D m₂ h tk hp E' a1 a2 a3 a4 a5 a6 a7 a8 a9 a10 => ?_) done
  rw [Int.zero_add] at a5
  exact wpAny_noRaise (turn _ _ I i t ys nx oI oC C D m₂ h tk a1 a2 a3 a4 a5 a6 a7 a8 a9 a10 fun y nx' h' tk' F9 N9 ad J9 => CpEnd.intro (own := [(I, oI)]) nx' F9 N9 (fun p hp => hp) ad J9)
end
end Mine
-- CompA
namespace Mine
open PyProof.Rows.LCg
section
variable {prog : Program} {w : World} {A : Around} {E : Value → Shared → Prop} {s : Shared} {h₀ : Heap} {L : Addr} {m : Str → Option Value} {env : Env}
/-- a list comprehension that is bound to a name at once -/
theorem cp_compA {elt iter target : Expr} {y : Str} {py : Pos} {scope : Scope} {cl : List (Str × Addr)} {pos spos : Pos} {Q : Flow → Shared → Prop} (_F₀ : Fr h₀ L s.heap m) (hLe : env.locals = L)
    (hsw : swapsWith (.ListComp elt [⟨target, iter, [], 0⟩] scope pos) (some (.Name y py)) spos.line env = pure true)
    (hclos : closureFor scope env = pure cl) (hcell : ∀ z ∈ scope.names, z.2 ≠ .cell) (hkind : scope.kind = .function)
    (hnames : ∀ z ∈ scope.names, z.2 = .local → scope.names.lookup z.1 = some .local)
    (hy : env.kindOf y = some .local) (hp : (env.scope.kind == .class || (env.scope.kind == .module && env.locals != env.globals)) = false)
    (h : wpAny (model prog w) A (eval iter env) (fun xv s₁ => wpAny (model prog w) A (pyIter xv) (fun it s₂ => BlockT prog w A h₀ L m env elt target scope cl (fun s₂ => FinA h₀ L m s₂ y Q) it s₂) E s₁) E s)
    (hs : ∀ x, foldedSetIterable iter env x = pure x := by intro _; rfl) :
    wpAny (model prog w) A (exec (.Assign [.Name y py] (.ListComp elt [⟨target, iter, [], 0⟩] scope pos) spos) env) Q E s := by
  subst hLe
  rw [exec_Assign_Name_used _ _ _ _ hsw]
  refine wpAny_bind (wpAny_standAt (wpAny_bind ?_))
  show wpAny _ A (do let _ ← comprehension (.ListComp elt [⟨target, iter, [], 0⟩] scope pos) scope env _ (newList []) false (eval iter env) (some (assign (.Name y py) env))) _ _ s
  refine wpAny_bind (wpAny_mono (wpAny_comprehension_free (use := some (assign (.Name y py) env)) (Q := fun _ s' => Q .next s') rfl hs hclos hkind hnames
    (wpAny_mono h (fun xv s₁ h₁ => wpAny_mono h₁ (fun it s₂ h₂ => ?_) fun _ _ e => e) fun _ _ e => e)) (fun _ s' hq => wpAny_pure (wpAny_pure hq)) fun _ _ e => e)
  refine cp_block hcell hkind h₂ ?_
  intro D C h' tk m' ys nx F' N' o1 hn hC₀ hCL hCD offC fin
  show wpAny _ A (assign (.Name y py) env (.ref D)) _ _ _
  refine wpAny_assign_Name (wpAny_storeName_local hy F'.ns (fun h₂ hn₂ hs₂ => ?_) hp)
  have hL₀ : h₀.get? env.locals = none := Heap.get?_none_of_le F'.above
  have F₂ : Fr h₀ env.locals h₂ (fun z => if z = y then some (.ref D) else m z) := ⟨hn₂, fun b o e => hs₂.extBut b o (fun q => by rw [q, hL₀] at e; cases e) (F'.keep b o e), F'.above⟩
  refine ⟨m', hn.sameBut hs₂ hCL, fun h'' hs'' => fin D h'' _ (F₂.change hs'' hCL hC₀) (fun p hp => ?_) o1⟩
  have z : h₂.get? p.1 = some p.2 := hs₂.extBut _ _ (N' p hp).2.1 (N' p hp).1
  refine ⟨hs''.extBut _ _ ?_ z, (N' p hp).2⟩
  rcases List.mem_cons.mp hp with rfl | hp
  · exact Ne.symm hCD
  · exact offC p hp
end
end Mine
-- Zip
namespace Mine
open PyProof.Rows.LCg
section
variable {prog : Program} {w : World} {A : Around} {E : Value → Shared → Prop} {s : Shared} {h₀ : Heap} {L : Addr} {m : Str → Option Value} {env : Env}
theorem KTurns.more {target : Expr} {I : Addr} {fp wr wr' : List Addr} {n : Nat} {P Md : Nat → Value → Heap → Prop} {St : Nat → Heap → Prop} (W : KTurns prog w A target I fp wr n P Md St) (h1 : ∀ b ∈ wr, b ∈ wr') (h2 : ∀ b ∈ wr', b ∈ fp) :
    KTurns prog w A target I fp wr' n P Md St where
  sub := h2
  frame := W.frame
  item := fun i s Q E hi st hQ => W.item i s Q E hi st fun v h' tk hm hk => hQ v h' tk hm fun b o hb e => hk b o (fun h => hb (h1 b h)) e
  go := fun i v s Q E hm hQ => W.go i v s Q E hm fun h' hp st hk => hQ h' hp st fun b o hb e => hk b o (fun h => hb (h1 b h)) e
  done := fun s Q E st hQ => W.done s Q E st fun h' tk hk => hQ h' tk fun b o hb e => hk b o (fun h => hb (h1 b h)) e
theorem own_many : ∀ {own : Led} {as : List Addr}, own.map (·.1) = as → (∀ p ∈ own, p.1 ∈ as) ∧ own.length = as.length
  | own, as, h => ⟨fun p hp => h ▸ List.mem_map_of_mem hp, by rw [← h, List.length_map]⟩
/-- a block over zip of two lists -/
theorem cp_zip2 {elt : Expr} {a b : Str} {pa pb tp : Pos} {kk : Nat} {scope : Scope} {cl : List (Str × Addr)} {Fin : Shared → List Value → Led → Prop} {l1 l2 : Addr} {xs ys : List Value} (J : Nat → List Value → Led → Prop) {news : Led}
    (hh : A.handled = none) (hl1 : s.heap.IsList l1 xs.toArray) (hl2 : s.heap.IsList l2 ys.toArray) (hs1 : (∃ o, h₀.get? l1 = some o) ∨ ∃ o, ∀ i zs nx, J i zs nx → (l1, o) ∈ nx) (hs2 : (∃ o, h₀.get? l2 = some o) ∨ ∃ o, ∀ i zs nx, J i zs nx → (l2, o) ∈ nx)
    (hsz : min xs.length ys.length ≤ sizeLine) (hkind : scope.kind = .function) (ha : scope.names.lookup a = some .local) (hb : scope.names.lookup b = some .local) (hab : a ≠ b) (F : Fr h₀ L s.heap m) (N : News h₀ L s.heap news) (hJ : J 0 [] news)
    (turn : ∀ (R : Value → Shared → Prop) (z : Shared) (own : Led) i v1 v2 zs nx oC C D m₂ h tk, xs[i]? = some v1 → ys[i]? = some v2 → J i zs nx → nx.map (·.1) = news.map (·.1) → NsObj oC m₂ → m₂ a = some v1 → m₂ b = some v2 → Fr h₀ L h m →
      News h₀ L h (own ++ (C, oC) :: (D, lst zs) :: nx) → @LT.lt Nat _ D C → (∀ p ∈ nx, @LT.lt Nat _ p.1 D) →
      (∀ y nx' h' tk', Fr h₀ L h' m → News h₀ L h' (own ++ (C, oC) :: (D, lst zs) :: nx') → nx'.map (·.1) = news.map (·.1) → J (i + 1) (zs ++ [y]) nx' → R y { z with heap := h', toks := tk' }) →
      wpAny (model prog w) A (eval elt (compEnvC scope cl C env)) R (fun _ _ => False) { z with heap := h, toks := tk })
    (done : ∀ hp zs nx, J (min xs.length ys.length) zs nx → nx.map (·.1) = news.map (·.1) → Fin { s with heap := hp } zs nx) :
    wpAny (model prog w) A (call (.type "zip") [.ref l1, .ref l2]) (fun xv s₁ => wpAny (model prog w) A (pyIter xv) (fun it s₂ => BlockT prog w A h₀ L m env elt (.Tuple [.Name a pa, .Name b pb] kk tp) scope cl Fin it s₂) E s₁) E s := by
  revert done
  revert turn
  revert hJ
  revert N
  revert F
  revert hab
  revert hb
  revert ha
  revert hkind
  revert hsz
  revert hs2
  revert hs1
  revert hl2
  revert hl1
  revert hh
  revert prog w A E s h₀ L m env elt a b pa pb tp kk scope cl Fin l1 l2 xs ys J news
  change ∀ a0 a1 a2 a3 a4 a5 a6 a7 a8 a9 a10 a11 a12 a13 a14 a15 a16 a17 a18 a19 a20 a21 a22 a23 a24, _
  refine eps23 (ne23 (⟨default⟩) ne_world ne_around ne_post ne_shared ne_heap ne_nat ne_map (⟨default⟩) (⟨default⟩) (⟨default⟩) (⟨default⟩) (⟨default⟩) (⟨default⟩) (⟨default⟩) ne_nat (⟨default⟩) (⟨default⟩) (⟨default⟩) ne_nat ne_nat ne_vals ne_vals) ((?_ : ∀ a0 a1 a2 a3 a4 a5 a6 a7 a8 a9 a10 a11 a12 a13 a14 a15 a16 a17 a18 a19 a20 a21 a22, At23 _ a0 a1 a2 a3 a4 a5 a6 a7 a8 a9 a10 a11 a12 a13 a14 a15 a16 a17 a18 a19 a20 a21 a22) _ _ _ _ _ _ _ _ _ _ _ _ _ _ _ _ _ _ _ _ _ _ _)
  intros prog w A E s h₀ L m env elt a b pa pb tp kk scope cl Fin l1 l2 xs ys
  refine At23.mk ?_
  refine eps2 (ne2 (⟨default⟩) ne_led) ((?_ : ∀ a0 a1, At2 _ a0 a1) _ _)
  intros J news
  refine At2.mk ?_
  intros hh hl1 hl2 hs1 hs2 hsz hkind ha hb hab F N hJ turn done
  obtain ⟨lo1, hlo1, _⟩ := id hl1
  obtain ⟨lo2, hlo2, _⟩ := id hl2
  have hlt1 : @LT.lt Nat _ l1 s.heap.objs.size := Heap.lt_size hlo1
  have hlt2 : @LT.lt Nat _ l2 s.heap.objs.size := Heap.lt_size hlo2
  have hLs : @LT.lt Nat _ L s.heap.objs.size := F.ns.lt
  have Da : ZipApart (s.heap.objs.size + 4) (s.heap.objs.size + 2) (s.heap.objs.size + 3) s.heap.objs.size (s.heap.objs.size + 1) l1 l2 := ktu_apart _ _ _ hlt1 hlt2
  refine call_zip_2 hl1 hl2 fun h' hz hTI hTO hi1 hi2 hsz' hk => ?_
  refine wpAny_pyIter_zip hz ?_
  have W := (WalksT.zip2 (prog := prog) (w := w) (A := A) hh _ _ _ _ _ _ _ Da xs.toArray ys.toArray).toU
  have KT := KTurns.more (wr' := [s.heap.objs.size + 4, s.heap.objs.size + 2, s.heap.objs.size + 3, s.heap.objs.size, s.heap.objs.size + 1]) (KTurns.ofWalksU (elts := [.Name a pa, .Name b pb]) (k := kk) (pos := tp) W) (by simp) (by simp)
  refine ⟨s.heap.objs.size + 4, _, _, _, _, _, _, news, fun i m'' => ∃ v1 v2, xs[i]? = some v1 ∧ ys[i]? = some v2 ∧ m'' a = some v1 ∧ m'' b = some v2, J, rfl, ⟨KT, fun s Q E => W.self 0 s Q E, ?own⟩, by simpa using hsz, F.keeps hk, N.grown hk, ⟨hz, hTI, ⟨_, _, hTO⟩, hi1, hi2, hl1.at fun o e => hk _ o e, hl2.at fun o e => hk _ o e⟩, ?wr, ?fp, ?asg, hJ, ?turn, ?done⟩
  case own =>
    rintro i h ⟨e1, e2, ⟨a, b, e3⟩, ⟨o4, e4, _⟩, ⟨o5, e5, _⟩, _⟩
    obtain ⟨o1, g1⟩ : ∃ o1 : Obj, h.get? (s.heap.objs.size + 4) = some o1 := ⟨_, e1⟩
    obtain ⟨o2, g2⟩ : ∃ o1 : Obj, h.get? (s.heap.objs.size + 2) = some o1 := ⟨_, e2⟩
    obtain ⟨o3, g3⟩ : ∃ o1 : Obj, h.get? (s.heap.objs.size + 3) = some o1 := ⟨_, e3⟩
    refine ⟨[(_, o1), (_, o2), (_, o3), (_, o4), (_, o5)], rfl, fun p hp => ?_⟩
    simp only [List.mem_cons, List.not_mem_nil, or_false] at hp
    rcases hp with rfl | rfl | rfl | rfl | rfl <;> assumption
  case wr =>
    intro c hc
    simp only [List.mem_cons, List.not_mem_nil, or_false] at hc
    have key : ∀ k : Nat, k ≤ 4 → (@LT.lt Nat _ (s.heap.objs.size + k) h'.objs.size ∧ h₀.get? (s.heap.objs.size + k) = none ∧ L ≠ s.heap.objs.size + k ∧ ∀ p ∈ news, @LT.lt Nat _ p.1 (s.heap.objs.size + k)) := fun k hk4 =>
      ⟨by rw [hsz']; omega, ktu_new F (Nat.le_add_right _ _), Nat.ne_of_lt (Nat.lt_of_lt_of_le hLs (Nat.le_add_right _ _)), fun p hp => Nat.lt_of_lt_of_le (Heap.lt_size (N p hp).1) (Nat.le_add_right _ _)⟩
    rcases hc with rfl | rfl | rfl | rfl | rfl
    · exact key 4 (by decide)
    · exact key 2 (by decide)
    · exact key 3 (by decide)
    · exact key 0 (by decide)
    · exact key 1 (by decide)
  case fp =>
    intro c hc
    simp only [List.mem_cons, List.not_mem_nil, or_false] at hc
    rcases hc with rfl | rfl | rfl | rfl | rfl | rfl | rfl
    · exact .inl (by simp)
    · exact .inl (by simp)
    · exact .inl (by simp)
    · exact .inl (by simp)
    · exact .inl (by simp)
    · exact .inr hs1
    · exact .inr hs2
  case asg =>
    rintro i v s₂ C m' Q' E' hi ⟨T, vals, rfl, ⟨x, y, hx, hy, rfl⟩, hT⟩ hn k
    exact cp_two hh hT hkind ha hb hab hn fun h2 tk2 m2 hm2 hn2 hs2 => k h2 tk2 m2 ⟨x, y, by simpa using hx, by simpa using hy, hm2.1, hm2.2⟩ hn2 hs2
  case turn =>
    intro i zs nx own C oC D m₂ h tk E' hi hj hadr how hoC hB F' N' l1' l2' l3'
    obtain ⟨v1, v2, hv1, hv2, h1, h2⟩ := hB
    exact wpAny_noRaise (turn _ _ own i v1 v2 zs nx oC C D m₂ h tk hv1 hv2 hj hadr hoC h1 h2 F' N' l2' (fun p hp => l1' p (List.mem_append_right _ hp)) fun y nx' h9 tk9 F9 N9 hadr9 hj9 => CpEnd.intro nx' F9 N9 (fun p hp => hp) hadr9 hj9)
  case done =>
    intro zs nx hj hadr
    exact done h' zs nx (by simpa using hj) hadr
end
end Mine
-- Zip3
namespace Mine
open PyProof.Rows.LCg
theorem z3_type (a b c : Value) : checkTypeCall "zip" ⟨[a, b, c], []⟩ = pure () := by kernel_rfl
theorem z3_new (a b c : Value) : checkBuiltinCall "zip.__new__" ⟨[.type "zip", a, b, c], []⟩ = pure () := by kernel_rfl
theorem z3_init (a b c d : Value) : argsOk "object.__init__" ⟨[a, b, c, d], []⟩ := by unfold argsOk; kernel_rfl
noncomputable abbrev IsTri (h : Heap) (T : Addr) (a b c : Value) : Prop := h.get? T = some { cls := .type "tuple", data := .seq #[a, b, c] }
noncomputable abbrev z3H1 (h : Heap) (l1 : Addr) : Heap := h.push { cls := .type "list_iterator", data := .fields #[.ref l1, .int 0 0] }
noncomputable abbrev z3H2 (h : Heap) (l1 l2 : Addr) : Heap := (z3H1 h l1).push { cls := .type "list_iterator", data := .fields #[.ref l2, .int 0 0] }
noncomputable abbrev z3H3 (h : Heap) (l1 l2 : Addr) (x : Str) (t : Tok) : Heap := (z3H2 h l1 l2).push { cls := .type "str_ascii_iterator", data := .fields #[.str x t, .int 0 0] }
noncomputable abbrev z3H4 (h : Heap) (l1 l2 : Addr) (x : Str) (t : Tok) : Heap := (z3H3 h l1 l2 x t).push { cls := .type "tuple", data := .seq #[.ref h.objs.size, .ref (z3H1 h l1).objs.size, .ref (z3H2 h l1 l2).objs.size] }
noncomputable abbrev z3H5 (h : Heap) (l1 l2 : Addr) (x : Str) (t : Tok) : Heap := (z3H4 h l1 l2 x t).push { cls := .type "tuple", data := .seq #[.none, .none, .none] }
noncomputable abbrev z3H6 (h : Heap) (l1 l2 : Addr) (x : Str) (t : Tok) : Heap := (z3H5 h l1 l2 x t).push { cls := .type "zip", data := .fields #[.none, .bool false, .bool false, .ref (z3H3 h l1 l2 x t).objs.size, .ref (z3H4 h l1 l2 x t).objs.size] }
theorem z3_meets (l1 l2 : Addr) (xs ys : Array Value) (x : Str) (t : Tok) (ha : x.cps.all (· < 128) = true) :
    Meets (Builtin.«zip.__new__» ⟨[.type "zip", .ref l1, .ref l2, .str x t], []⟩) (fun _ R s => s.heap.IsList l1 xs ∧ s.heap.IsList l2 ys ∧
      R (.ok (.ret (.ref (z3H5 s.heap l1 l2 x t).objs.size))) { s with heap := z3H6 s.heap l1 l2 x t }) :=
  .of_wp fun prog w A R s h => by
    obtain ⟨hp, g, d, tk, os⟩ := s; obtain ⟨hl1, hl2, h⟩ := h
    have hsub := sub_zip
    have hL1 : Heap.IsList (Shared.heap ⟨hp, g, d, tk, os⟩) l1 xs := hl1
    have hL2 : Heap.IsList (Shared.heap ⟨hp.push { cls := .type "list_iterator", data := .fields #[.ref l1, .int 0 0] }, g, d, tk, os⟩) l2 ys := Heap.IsList.push hl2 _
    wp_walk using wpAny_pyIter_list hL1, wpAny_pyIter_list hL2, wpAny_pyIter_ascii ha
    exact ⟨_, rfl, h⟩
section
variable {prog : Program} {w : World} {A : Around} {E : Value → Shared → Prop} {s : Shared}
theorem z3_update {T : Addr} {a b c x : Value} {k : Nat} {Q : Unit → Shared → Prop} (hT : IsTri s.heap T a b c)
    (h : ∀ h', h'.get? T = some { cls := .type "tuple", data := .seq ((#[a, b, c] : Array Value).setIfInBounds k x) } → Heap.SameBut T s.heap h' → Q () { s with heap := h' }) :
    wpAny (model prog w) A (updateSeq T (·.setIfInBounds k x)) Q E s := by
  refine wpAny_updateSeq hT rfl (h _ ?_ (Heap.SameBut.update ..))
  rw [Heap.get?_update_self _ hT rfl]
  simp [Obj.mapSeq]
theorem z3_call {l1 l2 : Addr} {xs ys : Array Value} {x : Str} {t : Tok} {Q : Value → Shared → Prop} (ha : x.cps.all (· < 128) = true) (hl1 : s.heap.IsList l1 xs) (hl2 : s.heap.IsList l2 ys)
    (h : ∀ h', IsZip h' (s.heap.objs.size + 5) (s.heap.objs.size + 3) (s.heap.objs.size + 4) .none → IsTri h' (s.heap.objs.size + 3) (.ref s.heap.objs.size) (.ref (s.heap.objs.size + 1)) (.ref (s.heap.objs.size + 2)) →
      IsTri h' (s.heap.objs.size + 4) .none .none .none → h'.IsListIter s.heap.objs.size l1 0 → h'.IsListIter (s.heap.objs.size + 1) l2 0 → h'.IsStrIter (s.heap.objs.size + 2) "str_ascii_iterator" x t 0 → h'.objs.size = s.heap.objs.size + 6 →
      (∀ c o, s.heap.get? c = some o → h'.get? c = some o) → Q (.ref (s.heap.objs.size + 5)) { s with heap := h' }) :
    wpAny (model prog w) A (call (.type "zip") [.ref l1, .ref l2, .str x t]) Q E s := by
  refine callType_new F.called_zip (by decide) (z3_type _ _ _) (z3_new _ _ _) (fun obj => z3_init obj _ _ _) F.entry_zip_new
    (z3_meets l1 l2 xs ys x t ha) ⟨hl1, hl2, ?_⟩
  have z1 : (z3H1 s.heap l1).objs.size = s.heap.objs.size + 1 := Heap.size_push ..
  have z2 : (z3H2 s.heap l1 l2).objs.size = s.heap.objs.size + 2 := by rw [Heap.size_push, z1]
  have z3 : (z3H3 s.heap l1 l2 x t).objs.size = s.heap.objs.size + 3 := by rw [Heap.size_push, z2]
  have z4 : (z3H4 s.heap l1 l2 x t).objs.size = s.heap.objs.size + 4 := by rw [Heap.size_push, z3]
  have z5 : (z3H5 s.heap l1 l2 x t).objs.size = s.heap.objs.size + 5 := by rw [Heap.size_push, z4]
  have z6 : (z3H6 s.heap l1 l2 x t).objs.size = s.heap.objs.size + 6 := by rw [Heap.size_push, z5]
  have p := @Heap.get?_push_of_some
  have g6 : (z3H6 s.heap l1 l2 x t).get? (z3H5 s.heap l1 l2 x t).objs.size = some _ := Heap.get?_push_size _ rfl
  have g5 : (z3H6 s.heap l1 l2 x t).get? (z3H4 s.heap l1 l2 x t).objs.size = some _ := Heap.get?_push_of_some _ (Heap.get?_push_size _ rfl)
  have g4 : (z3H6 s.heap l1 l2 x t).get? (z3H3 s.heap l1 l2 x t).objs.size = some _ := Heap.get?_push_of_some _ (Heap.get?_push_of_some _ (Heap.get?_push_size _ rfl))
  have g3 : (z3H6 s.heap l1 l2 x t).get? (z3H2 s.heap l1 l2).objs.size = some _ := Heap.get?_push_of_some _ (Heap.get?_push_of_some _ (Heap.get?_push_of_some _ (Heap.get?_push_size _ rfl)))
  have g2 : (z3H6 s.heap l1 l2 x t).get? (z3H1 s.heap l1).objs.size = some _ := Heap.get?_push_of_some _ (Heap.get?_push_of_some _ (Heap.get?_push_of_some _ (Heap.get?_push_of_some _ (Heap.get?_push_size _ rfl))))
  have g1 : (z3H6 s.heap l1 l2 x t).get? s.heap.objs.size = some _ := Heap.get?_push_of_some _ (Heap.get?_push_of_some _ (Heap.get?_push_of_some _ (Heap.get?_push_of_some _ (Heap.get?_push_of_some _ (Heap.get?_push_size _ rfl)))))
  show _ ∧ _
  rw [z3, z4, z5] at g6
  rw [z4] at g5
  rw [z1, z2, z3] at g4
  rw [z2] at g3
  rw [z1] at g2
  rw [z5]
  exact ⟨⟨_, g6, rfl⟩, h _ g6 g4 g5 ⟨_, g1, rfl, rfl⟩ ⟨_, g2, rfl, rfl⟩ ⟨_, g3, rfl, rfl⟩ z6 fun c o x =>
    Heap.get?_push_of_some _ (Heap.get?_push_of_some _ (Heap.get?_push_of_some _ (Heap.get?_push_of_some _ (Heap.get?_push_of_some _ (Heap.get?_push_of_some _ x)))))⟩
end
end Mine
-- Zip3b
namespace Mine
open PyProof.Rows.LCg
section
variable {prog : Program} {w : World} {A : Around} {E : Value → Shared → Prop} {s : Shared}
/-- how a zip of two lists and a text stands after i turns -/
noncomputable def Z3St (b l1 l2 : Addr) (xs ys : Array Value) (x : Str) (t : Tok) (f0 : Value) (i j : Nat) (h : Heap) : Prop :=
  IsZip h (b + 5) (b + 3) (b + 4) f0 ∧ IsTri h (b + 3) (.ref b) (.ref (b + 1)) (.ref (b + 2)) ∧ (∃ a1 a2 a3, IsTri h (b + 4) a1 a2 a3) ∧ h.IsListIter b l1 j ∧ h.IsListIter (b + 1) l2 j ∧ h.IsStrIter (b + 2) "str_ascii_iterator" x t j ∧ h.IsList l1 xs ∧ h.IsList l2 ys ∧ i ≤ j
theorem ad {b : Addr} {i j : Nat} (h : i ≠ j) : (b + i : Nat) ≠ b + j := fun e => h (Nat.add_left_cancel e)
theorem ad0 {b : Addr} {j : Nat} (h : 0 ≠ j) : b ≠ (b + j : Nat) := fun e => h (Nat.add_left_cancel (n := b) (by rw [Nat.add_zero]; exact e))
theorem adl {l b : Addr} (h : @LT.lt Nat _ l b) (j : Nat) : l ≠ (b + j : Nat) := Nat.ne_of_lt (Nat.lt_of_lt_of_le h (Nat.le_add_right _ _))
theorem z3_next {b l1 l2 : Addr} {xs ys : Array Value} {x : Str} {t : Tok} {i c : Nat} {v1 v2 : Value} {Q : Option Value → Shared → Prop} (h1 : @LT.lt Nat _ l1 b) (h2 : @LT.lt Nat _ l2 b)
    (st : Z3St b l1 l2 xs ys x t .none i i s.heap) (e1 : xs[i]? = some v1) (e2 : ys[i]? = some v2) (e3 : x.cps[i]? = some c)
    (hQ : ∀ h' u tk, Z3St b l1 l2 xs ys x t (rawInt s.heap.objs.size) i (i + 1) h' → IsTri h' s.heap.objs.size v1 v2 (.str ⟨#[c]⟩ u) →
      (∀ c o, c ≠ b + 5 → c ≠ b + 4 → c ≠ b → c ≠ b + 1 → c ≠ b + 2 → s.heap.get? c = some o → h'.get? c = some o) → Q (some (.ref s.heap.objs.size)) { s with heap := h', toks := tk }) :
    wpAny (model prog w) A (pyNext (.ref (b + 5))) Q E s := by
  revert hQ
  revert e3
  revert e2
  revert e1
  revert st
  revert h2
  revert h1
  revert prog w A E s b l1 l2 xs ys x t i c v1 v2 Q
  change ∀ a0 a1 a2 a3 a4 a5 a6 a7 a8 a9 a10 a11 a12 a13 a14 a15 a16, _
  refine eps16 (ne16 (⟨default⟩) ne_world ne_around ne_post ne_shared ne_nat ne_nat ne_nat (⟨#[]⟩) (⟨#[]⟩) (⟨default⟩) ne_nat ne_nat ne_nat ne_value ne_value) ((?_ : ∀ a0 a1 a2 a3 a4 a5 a6 a7 a8 a9 a10 a11 a12 a13 a14 a15, At16 _ a0 a1 a2 a3 a4 a5 a6 a7 a8 a9 a10 a11 a12 a13 a14 a15) _ _ _ _ _ _ _ _ _ _ _ _ _ _ _ _)
  intros prog w A E s b l1 l2 xs ys x t i c v1 v2
  refine At16.mk ?_
  refine eps_all ((⟨default⟩)) ((?_ : ∀ a, AtE _ a) _)
  intros Q
  refine AtE.mk ?_
  intros h1 h2 st e1 e2 e3 hQ
  obtain ⟨hz, hTI, ⟨a1, a2, a3, hTO⟩, s1, s2, s3, hl1, hl2, _⟩ := st
  have hT : s.TypeIs (.ref (b + 5)) "zip" := ⟨_, hz, rfl⟩
  unfold pyNext
  refine wpAny_bind (wpAny_attempt (wpAny_callSpecial?_slot (name := Str.ofString "__next__") hT F.slot_zip_next
    (wpAny_call_entry F.slot_zip_next hT F.entry_zip_next ?_ (F.args_zip_next_1 _))))
  show wpAny _ _ (field (.ref _) 2 >>= _) _ _ _
  refine wpAny_bind (wpAny_field hz rfl (x := .bool false) rfl ?_)
  show wpAny _ _ (field (.ref _) 3 >>= _) _ _ _
  refine wpAny_bind (wpAny_field hz rfl (x := .ref _) rfl ?_)
  refine wpAny_bind (wpAny_seqItems hTI rfl ?_)
  show wpAny _ _ (Builtin.SmallTypes.ownedTupleIsFree (.ref _) >>= _) _ _ _
  refine wpAny_bind ?_
  unfold Builtin.SmallTypes.ownedTupleIsFree
  refine wpAny_bind (wpAny_field hz rfl (x := .none) rfl (wpAny_pure ?_))
  simp only [if_true]
  refine wpAny_bind (wpAny_rule ?_)
  refine wpAny_bind (wpAny_field hz rfl (x := .ref _) rfl ?_)
  refine wpAny_bind (wpAny_setField_rec hz (by simp) fun g1 z1 u1 => ?_)
  replace z1 : IsZip g1 (b + 5) (b + 3) (b + 4) .ellipsis := z1
  refine wpAny_bind ?_
  simp only [List.zipIdx_cons, List.zipIdx_nil, List.forIn_cons, List.forIn_nil]
  -- first
  refine wpAny_bind (wpAny_bind (wpAny_onRaise ?_))
  show wpAny _ _ (Builtin.SmallTypes.nextOf (.ref b) >>= _) _ _ _
  refine wpAny_bind (wpAny_nextOf_list_item (s1.extBut u1.extBut (ad0 (by decide))) (hl1.extBut u1.extBut (adl h1 5)) e1 fun g2 k1 u2 => wpAny_pure ?_)
  have t2 : IsTri g2 (b + 4) a1 a2 a3 := u2.extBut _ _ (Ne.symm (ad0 (by decide))) (u1.extBut _ _ (ad (by decide)) hTO)
  refine wpAny_bind (wpAny_seqItems t2 rfl ?_)
  refine wpAny_bind (z3_update t2 fun g3 t3 u3 => ?_)
  replace t3 : IsTri g3 (b + 4) v1 a2 a3 := t3
  refine wpAny_bind (wpAny_letGo (wpAny_pure ?_))
  -- second
  refine wpAny_bind (wpAny_bind (wpAny_onRaise ?_))
  show wpAny _ _ (Builtin.SmallTypes.nextOf (.ref (b + 1)) >>= _) _ _ _
  refine wpAny_bind (wpAny_nextOf_list_item (((s2.extBut u1.extBut (ad (by decide))).extBut u2.extBut (Ne.symm (ad0 (by decide)))).extBut u3.extBut (ad (by decide)))
    (((hl2.extBut u1.extBut (adl h2 5)).extBut u2.extBut (Nat.ne_of_lt h2)).extBut u3.extBut (adl h2 4)) e2 fun g4 k2 u4 => wpAny_pure ?_)
  have t4 : IsTri g4 (b + 4) v1 a2 a3 := u4.extBut _ _ (ad (by decide)) t3
  refine wpAny_bind (wpAny_seqItems t4 rfl ?_)
  refine wpAny_bind (z3_update t4 fun g5 t5 u5 => ?_)
  replace t5 : IsTri g5 (b + 4) v1 v2 a3 := t5
  refine wpAny_bind (wpAny_letGo (wpAny_pure ?_))
  -- third
  refine wpAny_bind (wpAny_bind (wpAny_onRaise ?_))
  show wpAny _ _ (Builtin.SmallTypes.nextOf (.ref (b + 2)) >>= _) _ _ _
  refine wpAny_bind (wpAny_nextOf_ascii_item (c := c) (((((s3.extBut u1.extBut (ad (by decide))).extBut u2.extBut (Ne.symm (ad0 (by decide)))).extBut u3.extBut (ad (by decide))).extBut u4.extBut (ad (by decide))).extBut u5.extBut (ad (by decide))) e3 fun g6 k3 u6 => wpAny_pure ?_)
  have t6 : IsTri g6 (b + 4) v1 v2 a3 := u6.extBut _ _ (ad (by decide)) t5
  refine wpAny_bind (wpAny_seqItems t6 rfl ?_)
  refine wpAny_bind (z3_update t6 fun g7 t7 u7 => ?_)
  replace t7 : IsTri g7 (b + 4) v1 v2 (.str ⟨#[c]⟩ s.toks) := t7
  refine wpAny_bind (wpAny_letGo (wpAny_pure (wpAny_pure ?_)))
  -- hand out
  refine wpAny_bind (wpAny_seqItems t7 rfl ?_)
  refine wpAny_bind (wpAny_newTuple ?_)
  have hsz : g7.objs.size = s.heap.objs.size := by rw [u7.1, u6.1, u5.1, u4.1, u3.1, u2.1, u1.1]
  have z7 : IsZip g7 (b + 5) (b + 3) (b + 4) .ellipsis := u7.extBut _ _ (ad (by decide)) (u6.extBut _ _ (ad (by decide)) (u5.extBut _ _ (ad (by decide)) (u4.extBut _ _ (ad (by decide)) (u3.extBut _ _ (ad (by decide)) (u2.extBut _ _ (Ne.symm (ad0 (by decide))) z1)))))
  have up : ∀ c o, c ≠ b + 5 → c ≠ b + 4 → c ≠ b → c ≠ b + 1 → c ≠ b + 2 → s.heap.get? c = some o → g7.get? c = some o := fun c o c1 c2 c3 c4 c5 e =>
    u7.extBut _ _ c2 (u6.extBut _ _ c5 (u5.extBut _ _ c2 (u4.extBut _ _ c4 (u3.extBut _ _ c2 (u2.extBut _ _ c3 (u1.extBut _ _ c1 e))))))
  have k1' : g7.IsListIter b l1 (i + 1) := ((((k1.extBut u3.extBut (ad0 (by decide))).extBut u4.extBut (ad0 (by decide))).extBut u5.extBut (ad0 (by decide))).extBut u6.extBut (ad0 (by decide))).extBut u7.extBut (ad0 (by decide))
  have k2' : g7.IsListIter (b + 1) l2 (i + 1) := ((k2.extBut u5.extBut (ad (by decide))).extBut u6.extBut (ad (by decide))).extBut u7.extBut (ad (by decide))
  have k3' : g7.IsStrIter (b + 2) "str_ascii_iterator" x t (i + 1) := k3.extBut u7.extBut (ad (by decide))
  have hzlt : @LT.lt Nat _ (b + 5) g7.objs.size := Heap.lt_size z7
  show wpAny _ _ (Builtin.SmallTypes.ownedTupleHandOut (.ref _) (.ref g7.objs.size) >>= _) _ _ _
  refine wpAny_bind ?_
  unfold Builtin.SmallTypes.ownedTupleHandOut
  have z8 : IsZip (g7.push { cls := .type "tuple", data := .seq #[v1, v2, .str ⟨#[c]⟩ s.toks] }) (b + 5) (b + 3) (b + 4) .ellipsis := Heap.get?_push_of_some _ z7
  refine wpAny_bind (wpAny_setField_rec z8 (by simp) fun g9 z9 u9 => ?_)
  replace z9 : IsZip g9 (b + 5) (b + 3) (b + 4) (rawInt g7.objs.size) := z9
  refine wpAny_setField_rec z9 (by simp) fun g10 z10 u10 => ?_
  replace z10 : IsZip g10 (b + 5) (b + 3) (b + 4) (rawInt g7.objs.size) := z10
  have up2 : ∀ c o, c ≠ b + 5 → g7.get? c = some o → g10.get? c = some o := fun c o c1 e => u10.extBut _ _ c1 (u9.extBut _ _ c1 (Heap.get?_push_of_some _ e))
  have hT10 : IsTri g10 g7.objs.size v1 v2 (.str ⟨#[c]⟩ s.toks) := u10.extBut _ _ (Nat.ne_of_gt hzlt) (u9.extBut _ _ (Nat.ne_of_gt hzlt) (Heap.get?_push_size _ rfl))
  rw [hsz] at z10 hT10
  refine wpAny_pure ⟨_, rfl, ?_⟩
  refine wpAny_pure ?_
  show Q (some (.ref g7.objs.size)) _
  rw [hsz]
  exact hQ g10 _ _ ⟨z10, up2 _ _ (ad (by decide)) (up _ _ (ad (by decide)) (ad (by decide)) (Ne.symm (ad0 (by decide))) (ad (by decide)) (ad (by decide)) hTI), ⟨_, _, _, up2 _ _ (ad (by decide)) t7⟩, k1'.at fun o e => up2 _ o (ad0 (by decide)) e, k2'.at fun o e => up2 _ o (ad (by decide)) e,
      (by obtain ⟨o, e, r⟩ := k3'; exact ⟨o, up2 _ o (ad (by decide)) e, r⟩), hl1.at fun o e => up2 _ o (adl h1 5) (up _ o (adl h1 5) (adl h1 4) (Nat.ne_of_lt h1) (adl h1 1) (adl h1 2) e), hl2.at fun o e => up2 _ o (adl h2 5) (up _ o (adl h2 5) (adl h2 4) (Nat.ne_of_lt h2) (adl h2 1) (adl h2 2) e), Nat.le_succ _⟩ hT10
    fun c o c1 c2 c3 c4 c5 e => up2 c o c1 (up c o c1 c2 c3 c4 c5 e)
theorem z3_end {b l1 l2 : Addr} {xs ys : Array Value} {x : Str} {t : Tok} {i : Nat} {Q : Option Value → Shared → Prop} (hh : A.handled = none) (h1 : @LT.lt Nat _ l1 b)
    (st : Z3St b l1 l2 xs ys x t .none i i s.heap) (e1 : xs[i]? = none)
    (hQ : ∀ h', (∀ c o, c ≠ b + 5 → c ≠ b → s.heap.get? c = some o → h'.get? c = some o) → Q none { s with heap := h' }) :
    wpAny (model prog w) A (pyNext (.ref (b + 5))) Q E s := by
  revert hQ
  revert e1
  revert st
  revert h1
  revert hh
  revert prog w A E s b l1 l2 xs ys x t i Q
  change ∀ a0 a1 a2 a3 a4 a5 a6 a7 a8 a9 a10 a11 a12 a13, _
  refine eps8 (ne8 (⟨default⟩) ne_world ne_around ne_post ne_shared ne_nat ne_nat ne_nat) ((?_ : ∀ a0 a1 a2 a3 a4 a5 a6 a7, At8 _ a0 a1 a2 a3 a4 a5 a6 a7) _ _ _ _ _ _ _ _)
  intros prog w A E s b l1 l2
  refine At8.mk ?_
  refine eps4 (ne4 (⟨#[]⟩) (⟨#[]⟩) (⟨default⟩) ne_nat) ((?_ : ∀ a0 a1 a2 a3, At4 _ a0 a1 a2 a3) _ _ _ _)
  intros xs ys x t
  refine At4.mk ?_
  refine eps2 (ne2 ne_nat (⟨default⟩)) ((?_ : ∀ a0 a1, At2 _ a0 a1) _ _)
  intros i Q
  refine At2.mk ?_
  intros hh h1 st e1 hQ
  obtain ⟨hz, hTI, ⟨a1, a2, a3, hTO⟩, s1, s2, s3, hl1, hl2, _⟩ := st
  have hT : s.TypeIs (.ref (b + 5)) "zip" := ⟨_, hz, rfl⟩
  unfold pyNext
  refine wpAny_bind (wpAny_attempt (wpAny_callSpecial?_slot (name := Str.ofString "__next__") hT F.slot_zip_next
    (wpAny_call_entry F.slot_zip_next hT F.entry_zip_next ?_ (F.args_zip_next_1 _))))
  show wpAny _ _ (field (.ref _) 2 >>= _) _ _ _
  refine wpAny_bind (wpAny_field hz rfl (x := .bool false) rfl ?_)
  show wpAny _ _ (field (.ref _) 3 >>= _) _ _ _
  refine wpAny_bind (wpAny_field hz rfl (x := .ref _) rfl ?_)
  refine wpAny_bind (wpAny_seqItems hTI rfl ?_)
  show wpAny _ _ (Builtin.SmallTypes.ownedTupleIsFree (.ref _) >>= _) _ _ _
  refine wpAny_bind ?_
  unfold Builtin.SmallTypes.ownedTupleIsFree
  refine wpAny_bind (wpAny_field hz rfl (x := .none) rfl (wpAny_pure ?_))
  simp only [if_true]
  refine wpAny_bind (wpAny_rule ?_)
  refine wpAny_bind (wpAny_field hz rfl (x := .ref _) rfl ?_)
  refine wpAny_bind (wpAny_setField_rec hz (by simp) fun g1 z1 u1 => ?_)
  replace z1 : IsZip g1 (b + 5) (b + 3) (b + 4) .ellipsis := z1
  refine wpAny_bind ?_
  simp only [List.zipIdx_cons, List.zipIdx_nil, List.forIn_cons, List.forIn_nil]
  refine wpAny_bind (wpAny_bind (wpAny_onRaise ?_))
  show wpAny _ _ (Builtin.SmallTypes.nextOf (.ref b) >>= _) _ _ _
  refine wpAny_bind (wpAny_nextOf_list_end hh (s1.extBut u1.extBut (ad0 (by decide))) (hl1.extBut u1.extBut (adl h1 5)) e1 fun h₂ e hs₂ he => ?_)
  obtain ⟨oe, hoe, hce⟩ := he
  have hz₂ : IsZip h₂ (b + 5) (b + 3) (b + 4) .ellipsis := hs₂ _ _ (Ne.symm (ad0 (by decide))) z1
  have hez : e ≠ b + 5 := fun x => by subst x; rw [hz₂] at hoe; cases hoe; simp at hce
  refine wpAny_setField_rec hz₂ (by simp) fun h₃ _ hs₃ => ?_
  refine wpAny_bind (wpAny_isInstance (T := "StopIteration") (b := true) ⟨oe, hs₃.extBut _ _ hez hoe, hce⟩ isSubtype_stop ?_)
  exact wpAny_pure (hQ _ fun c o c1 c2 x => hs₃.extBut _ _ c1 (hs₂ _ _ c2 (u1.extBut _ _ c1 x)))
end
end Mine
-- Zip3c
namespace Mine
open PyProof.Rows.LCg
section
variable {prog : Program} {w : World} {A : Around} {E : Value → Shared → Prop} {s : Shared} {h₀ : Heap} {L : Addr} {m : Str → Option Value} {env : Env}
theorem assign_three {env : Env} {a b c : Str} {pa pb pc tp : Pos} {kk : Nat} {T : Addr} {x y z : Value} {m : Str → Option Value} {Q : Unit → Shared → Prop} (hh : A.handled = none) (ht : s.heap.IsTuple T #[x, y, z])
    (ha : env.kindOf a = some .local) (hb : env.kindOf b = some .local) (hc : env.kindOf c = some .local) (hp : (env.scope.kind == .class || (env.scope.kind == .module && env.locals != env.globals)) = false) (hn : s.heap.Ns env.locals m)
    (h : ∀ (h' : Heap) (tk : Nat), h'.Ns env.locals (fun n => if n = c then some z else if n = b then some y else if n = a then some x else m n) → (∀ c o, c ≠ env.locals → s.heap.get? c = some o → h'.get? c = some o) → Q () { s with heap := h', toks := tk }) :
    wpAny (model prog w) A (assign (.Tuple [.Name a pa, .Name b pb, .Name c pc] kk tp) env (.ref T)) Q E s := by
  refine wpAny_assign_Tuple hh ht rfl rfl fun h₁ he₁ => ?_
  have hL : env.locals ≠ s.heap.objs.size := Nat.ne_of_lt hn.lt
  have hn₁ : h₁.Ns env.locals m := hn.at' fun o e => he₁ _ o hL e
  have up₁ : ∀ c o, s.heap.get? c = some o → h₁.get? c = some o := fun c o e => he₁ c o (Nat.ne_of_lt (Heap.lt_size e)) e
  show wpAny _ _ (assignInOrder [assign (.Name a pa) env, assign (.Name b pb) env, assign (.Name c pc) env] [x, y, z]) _ _ _
  refine assignInOrder_cons ?_
  refine wpAny_assign_Name (wpAny_storeName_local ha hn₁ (fun h₂ hn₂ hs₂ => ?_) hp)
  refine assignInOrder_cons ?_
  refine wpAny_assign_Name (wpAny_storeName_local hb hn₂ (fun h₃ hn₃ hs₃ => ?_) hp)
  refine assignInOrder_cons ?_
  refine wpAny_assign_Name (wpAny_storeName_local hc hn₃ (fun h₄ hn₄ hs₄ => ?_) hp)
  refine assignInOrder_nil ?_
  exact h h₄ _ hn₄ fun c o hc e => hs₄.extBut c o hc (hs₃.extBut c o hc (hs₂.extBut c o hc (up₁ c o e)))
end
section
variable {prog : Program} {w : World} {A : Around} {E : Value → Shared → Prop} {s : Shared} {h₀ : Heap} {L : Addr} {m : Str → Option Value} {env : Env}
noncomputable abbrev z3Item (xs ys : Array Value) (x : Str) (i : Nat) (v : Value) (h : Heap) : Prop := ∃ T u c v1 v2, v = .ref T ∧ xs[i]? = some v1 ∧ ys[i]? = some v2 ∧ x.cps[i]? = some c ∧ IsTri h T v1 v2 (.str ⟨#[c]⟩ u)
theorem z3_turns {elts : List Expr} {k : Nat} {pos : Pos} {b l1 l2 : Addr} {xs ys : Array Value} {x : Str} {t : Tok} {n : Nat} (hh : A.handled = none) (h1 : @LT.lt Nat _ l1 b) (h2 : @LT.lt Nat _ l2 b) (n1 : xs.size = n) (n2 : ys.size = n) (n3 : x.cps.size = n) :
    KTurns prog w A (.Tuple elts k pos) (b + 5) [b + 5, b + 3, b + 4, b, b + 1, b + 2, l1, l2] [b + 5, b + 3, b + 4, b, b + 1, b + 2] n (z3Item xs ys x)
      (fun i v h => z3Item xs ys x i v h ∧ ∃ T, v = .ref T ∧ Z3St b l1 l2 xs ys x t (rawInt T) i (i + 1) h ∧ T ≠ b + 5) (fun i h => Z3St b l1 l2 xs ys x t .none i i h) := by
  revert n3
  revert n2
  revert n1
  revert h2
  revert h1
  revert hh
  revert prog w A elts k pos b l1 l2 xs ys x t n
  change ∀ a0 a1 a2 a3 a4 a5 a6 a7 a8 a9 a10 a11 a12 a13, _
  refine eps8 (ne8 (⟨default⟩) ne_world ne_around (⟨default⟩) ne_nat (⟨default⟩) ne_nat ne_nat) ((?_ : ∀ a0 a1 a2 a3 a4 a5 a6 a7, At8 _ a0 a1 a2 a3 a4 a5 a6 a7) _ _ _ _ _ _ _ _)
  intros prog w A elts k pos b l1
  refine At8.mk ?_
  refine eps4 (ne4 ne_nat (⟨#[]⟩) (⟨#[]⟩) (⟨default⟩)) ((?_ : ∀ a0 a1 a2 a3, At4 _ a0 a1 a2 a3) _ _ _ _)
  intros l2 xs ys x
  refine At4.mk ?_
  refine eps2 (ne2 ne_nat ne_nat) ((?_ : ∀ a0 a1, At2 _ a0 a1) _ _)
  intros t n
  refine At2.mk ?_
  intros hh h1 h2 n1 n2 n3
  refine { sub := ?sub, frame := ?frame, item := ?item, go := ?go, done := ?done }
  case sub =>
   exact fun c hc => by
    simp only [List.mem_cons, List.not_mem_nil, or_false] at hc ⊢
    rcases hc with rfl | rfl | rfl | rfl | rfl | rfl <;> simp
  case frame =>
   exact fun i h h' st hk => by
    obtain ⟨hz, hTI, ⟨a1, a2, a3, hTO⟩, s1, s2, ⟨o3, e3, r3⟩, hl1, hl2, q⟩ := st
    exact ⟨hk _ (by simp) _ hz, hk _ (by simp) _ hTI, ⟨a1, a2, a3, hk _ (by simp) _ hTO⟩, s1.at fun o e => hk _ (by simp) o e, s2.at fun o e => hk _ (by simp) o e, ⟨o3, hk _ (by simp) _ e3, r3⟩, hl1.at fun o e => hk _ (by simp) o e, hl2.at fun o e => hk _ (by simp) o e, q⟩
  case item =>
   exact fun i s Q E hi st hQ => by
    have z := st.1
    refine z3_next h1 h2 st (v1 := xs[i]'(by omega)) (v2 := ys[i]'(by omega)) (c := x.cps[i]'(by omega)) (Array.getElem?_eq_getElem _) (Array.getElem?_eq_getElem _) (Array.getElem?_eq_getElem _) fun h' u tk st' ht hk => ?_
    exact hQ _ h' tk ⟨⟨_, u, _, _, _, rfl, Array.getElem?_eq_getElem _, Array.getElem?_eq_getElem _, Array.getElem?_eq_getElem _, ht⟩, _, rfl, st', Nat.ne_of_gt (Heap.lt_size z)⟩
      fun c o hc e => hk c o (fun q => hc (by simp [q])) (fun q => hc (by simp [q])) (fun q => hc (by simp [q])) (fun q => hc (by simp [q])) (fun q => hc (by simp [q])) e
  case go =>
   exact fun i v s Q E hm hQ => by
    obtain ⟨⟨T, u, c, v1, v2, rfl, e1, e2, e3, ht⟩, T', eT, ⟨hz, hTI, ⟨a1, a2, a3, hTO⟩, s1, s2, ⟨o3, f3, r3⟩, hl1, hl2, q⟩, hne⟩ := hm
    cases eT
    refine wpAny_letOwnedTupleGo_zip hz fun h' hz' hs' => hQ h' ⟨T, u, c, v1, v2, rfl, e1, e2, e3, hs'.extBut _ _ hne ht⟩ ⟨hz', hs'.extBut _ _ (ad (by decide)) hTI, ⟨a1, a2, a3, hs'.extBut _ _ (ad (by decide)) hTO⟩, s1.extBut hs'.extBut (ad0 (by decide)), s2.extBut hs'.extBut (ad (by decide)),
      ⟨o3, hs'.extBut _ _ (ad (by decide)) f3, r3⟩, hl1.extBut hs'.extBut (adl h1 5), hl2.extBut hs'.extBut (adl h2 5), Nat.le_refl _⟩ fun c o hc e => hs'.extBut _ _ (fun q => hc (by simp [q])) e
  case done =>
   exact fun s Q E st hQ => by
    refine z3_end hh h1 st (by rw [← n1]; exact Array.getElem?_eq_none (Nat.le_refl _)) fun h' hk => ?_
    exact hQ h' s.toks fun c o hc e => hk c o (fun q => hc (by simp [q])) (fun q => hc (by simp [q])) e
/-- a block over zip of two lists and a text -/
theorem cp_zip3 {elt : Expr} {a b c : Str} {pa pb pc tp : Pos} {kk : Nat} {scope : Scope} {cl : List (Str × Addr)} {Fin : Shared → List Value → Led → Prop} {l1 l2 : Addr} {xs ys : List Value} {x : Str} {tx : Tok} {n : Nat} (J : Nat → List Value → Led → Prop) {news : Led}
    (hh : A.handled = none) (hx : x.cps.all (· < 128) = true) (hl1 : s.heap.IsList l1 xs.toArray) (hl2 : s.heap.IsList l2 ys.toArray) (hs1 : (∃ o, h₀.get? l1 = some o) ∨ ∃ o, ∀ i zs nx, J i zs nx → (l1, o) ∈ nx) (hs2 : (∃ o, h₀.get? l2 = some o) ∨ ∃ o, ∀ i zs nx, J i zs nx → (l2, o) ∈ nx)
    (n1 : xs.length = n) (n2 : ys.length = n) (n3 : x.cps.size = n) (hsz : n ≤ sizeLine) (hkind : scope.kind = .function) (ha : scope.names.lookup a = some .local) (hb : scope.names.lookup b = some .local) (hc : scope.names.lookup c = some .local) (hab : a ≠ b) (hac : a ≠ c) (hbc : b ≠ c) (F : Fr h₀ L s.heap m) (N : News h₀ L s.heap news) (hJ : J 0 [] news)
    (turn : ∀ (R : Value → Shared → Prop) (z : Shared) (own : Led) i v1 v2 d u zs nx oC C D m₂ h tk, xs[i]? = some v1 → ys[i]? = some v2 → x.cps[i]? = some d → J i zs nx → nx.map (·.1) = news.map (·.1) → NsObj oC m₂ → m₂ a = some v1 → m₂ b = some v2 → m₂ c = some (.str ⟨#[d]⟩ u) → Fr h₀ L h m →
      News h₀ L h (own ++ (C, oC) :: (D, lst zs) :: nx) → @LT.lt Nat _ D C → (∀ p ∈ nx, @LT.lt Nat _ p.1 D) →
      (∀ y nx' h' tk', Fr h₀ L h' m → News h₀ L h' (own ++ (C, oC) :: (D, lst zs) :: nx') → nx'.map (·.1) = news.map (·.1) → J (i + 1) (zs ++ [y]) nx' → R y { z with heap := h', toks := tk' }) →
      wpAny (model prog w) A (eval elt (compEnvC scope cl C env)) R (fun _ _ => False) { z with heap := h, toks := tk })
    (done : ∀ hp zs nx, J n zs nx → nx.map (·.1) = news.map (·.1) → Fin { s with heap := hp } zs nx) :
    wpAny (model prog w) A (call (.type "zip") [.ref l1, .ref l2, .str x tx]) (fun xv s₁ => wpAny (model prog w) A (pyIter xv) (fun it s₂ => BlockT prog w A h₀ L m env elt (.Tuple [.Name a pa, .Name b pb, .Name c pc] kk tp) scope cl Fin it s₂) E s₁) E s := by
  revert done
  revert turn
  revert hJ
  revert N
  revert F
  revert hbc
  revert hac
  revert hab
  revert hc
  revert hb
  revert ha
  revert hkind
  revert hsz
  revert n3
  revert n2
  revert n1
  revert hs2
  revert hs1
  revert hl2
  revert hl1
  revert hx
  revert hh
  revert prog w A E s h₀ L m env elt a b c pa pb pc tp kk scope cl Fin l1 l2 xs ys x tx n J news
  change ∀ a0 a1 a2 a3 a4 a5 a6 a7 a8 a9 a10 a11 a12 a13 a14 a15 a16 a17 a18 a19 a20 a21 a22 a23 a24 a25 a26 a27 a28 a29, _
  refine eps23 (ne23 (⟨default⟩) ne_world ne_around ne_post ne_shared ne_heap ne_nat ne_map (⟨default⟩) (⟨default⟩) (⟨default⟩) (⟨default⟩) (⟨default⟩) (⟨default⟩) (⟨default⟩) (⟨default⟩) (⟨default⟩) ne_nat (⟨default⟩) (⟨default⟩) (⟨default⟩) ne_nat ne_nat) ((?_ : ∀ a0 a1 a2 a3 a4 a5 a6 a7 a8 a9 a10 a11 a12 a13 a14 a15 a16 a17 a18 a19 a20 a21 a22, At23 _ a0 a1 a2 a3 a4 a5 a6 a7 a8 a9 a10 a11 a12 a13 a14 a15 a16 a17 a18 a19 a20 a21 a22) _ _ _ _ _ _ _ _ _ _ _ _ _ _ _ _ _ _ _ _ _ _ _)
  intros prog w A E s h₀ L m env elt a b c pa pb pc tp kk scope cl Fin l1 l2
  refine At23.mk ?_
  refine eps4 (ne4 ne_vals ne_vals (⟨default⟩) ne_nat) ((?_ : ∀ a0 a1 a2 a3, At4 _ a0 a1 a2 a3) _ _ _ _)
  intros xs ys x tx
  refine At4.mk ?_
  refine eps3 (ne3 ne_nat (⟨default⟩) ne_led) ((?_ : ∀ a0 a1 a2, At3 _ a0 a1 a2) _ _ _)
  intros n J news
  refine At3.mk ?_
  intros hh hx hl1 hl2 hs1 hs2 n1 n2 n3 hsz hkind ha hb hc hab hac hbc F N hJ turn done
  obtain ⟨lo1, hlo1, _⟩ := id hl1
  obtain ⟨lo2, hlo2, _⟩ := id hl2
  have hlt1 : @LT.lt Nat _ l1 s.heap.objs.size := Heap.lt_size hlo1
  have hlt2 : @LT.lt Nat _ l2 s.heap.objs.size := Heap.lt_size hlo2
  have hLs : @LT.lt Nat _ L s.heap.objs.size := F.ns.lt
  refine z3_call hx hl1 hl2 fun h' hz hTI hTO hi1 hi2 hi3 hsz' hk => ?_
  refine wpAny_pyIter_zip hz ?_
  have KT := z3_turns (prog := prog) (w := w) (A := A) (elts := [.Name a pa, .Name b pb, .Name c pc]) (k := kk) (pos := tp) (xs := xs.toArray) (ys := ys.toArray) (x := x) (t := tx) hh hlt1 hlt2 (by simpa using n1) (by simpa using n2) n3
  refine ⟨s.heap.objs.size + 5, _, _, _, _, _, _, news, fun i m'' => ∃ v1 v2 d u, xs[i]? = some v1 ∧ ys[i]? = some v2 ∧ x.cps[i]? = some d ∧ m'' a = some v1 ∧ m'' b = some v2 ∧ m'' c = some (.str ⟨#[d]⟩ u), J, rfl, ⟨KT, fun s Q E st h => wpAny_pyIter_zip st.1 h, ?own⟩, hsz, F.keeps hk, N.grown hk,
    ⟨hz, hTI, ⟨_, _, _, hTO⟩, hi1, hi2, hi3, hl1.at fun o e => hk _ o e, hl2.at fun o e => hk _ o e, Nat.le_refl _⟩, ?wr, ?fp, ?asg, hJ, ?turn, ?done⟩
  case own =>
    rintro i h ⟨e1, e2, ⟨a, b, d, e3⟩, ⟨o4, e4, _⟩, ⟨o5, e5, _⟩, ⟨o6, e6, _⟩, _⟩
    obtain ⟨o1, g1⟩ : ∃ o1 : Obj, h.get? (s.heap.objs.size + 5) = some o1 := ⟨_, e1⟩
    obtain ⟨o2, g2⟩ : ∃ o1 : Obj, h.get? (s.heap.objs.size + 3) = some o1 := ⟨_, e2⟩
    obtain ⟨o3, g3⟩ : ∃ o1 : Obj, h.get? (s.heap.objs.size + 4) = some o1 := ⟨_, e3⟩
    refine ⟨[(_, o1), (_, o2), (_, o3), (_, o4), (_, o5), (_, o6)], rfl, fun p hp => ?_⟩
    simp only [List.mem_cons, List.not_mem_nil, or_false] at hp
    rcases hp with rfl | rfl | rfl | rfl | rfl | rfl <;> assumption
  case wr =>
    intro c hc
    simp only [List.mem_cons, List.not_mem_nil, or_false] at hc
    have key : ∀ k : Nat, k ≤ 5 → (@LT.lt Nat _ (s.heap.objs.size + k) h'.objs.size ∧ h₀.get? (s.heap.objs.size + k) = none ∧ L ≠ s.heap.objs.size + k ∧ ∀ p ∈ news, @LT.lt Nat _ p.1 (s.heap.objs.size + k)) := fun k hk4 =>
      ⟨by rw [hsz']; omega, ktu_new F (Nat.le_add_right _ _), Nat.ne_of_lt (Nat.lt_of_lt_of_le hLs (Nat.le_add_right _ _)), fun p hp => Nat.lt_of_lt_of_le (Heap.lt_size (N p hp).1) (Nat.le_add_right _ _)⟩
    rcases hc with rfl | rfl | rfl | rfl | rfl | rfl
    · exact key 5 (by decide)
    · exact key 3 (by decide)
    · exact key 4 (by decide)
    · exact key 0 (by decide)
    · exact key 1 (by decide)
    · exact key 2 (by decide)
  case fp =>
    intro c hc
    simp only [List.mem_cons, List.not_mem_nil, or_false] at hc
    rcases hc with rfl | rfl | rfl | rfl | rfl | rfl | rfl | rfl
    · exact .inl (by simp)
    · exact .inl (by simp)
    · exact .inl (by simp)
    · exact .inl (by simp)
    · exact .inl (by simp)
    · exact .inl (by simp)
    · exact .inr hs1
    · exact .inr hs2
  case asg =>
    rintro i v s₂ C m' Q' E' hi ⟨T, u, d, v1, v2, rfl, e1, e2, e3, hT⟩ hn k
    exact assign_three (env := compEnvC scope cl C env) hh ⟨_, hT, rfl, _, rfl⟩ (lookup_relabel_local ha) (lookup_relabel_local hb) (lookup_relabel_local hc) (by simp [compEnvC, relabel, hkind]) hn fun h2 tk2 hn2 hs2 =>
      k h2 tk2 _ ⟨v1, v2, d, u, by simpa using e1, by simpa using e2, e3, by simp [hab, hac], by simp [hbc], by simp⟩ hn2 hs2
  case turn =>
    intro i zs nx own C oC D m₂ h tk E' hi hj hadr how hoC hB F' N' l1' l2' l3'
    obtain ⟨v1, v2, d, u, hv1, hv2, hv3, g1, g2, g3⟩ := hB
    exact wpAny_noRaise (turn _ _ own i v1 v2 d u zs nx oC C D m₂ h tk hv1 hv2 hv3 hj hadr hoC g1 g2 g3 F' N' l2' (fun p hp => l1' p (List.mem_append_right _ hp)) fun y nx' h9 tk9 F9 N9 hadr9 hj9 => CpEnd.intro nx' F9 N9 (fun p hp => hp) hadr9 hj9)
  case done =>
    intro zs nx hj hadr
    exact done h' zs nx hj hadr
end
end Mine
-- LawP
namespace Mine
theorem new_apart {h₀ h : Heap} {L l : Addr} {m : Str → Option Value} {news : Led} (F : Fr h₀ L h m) (N : News h₀ L h news) (hn : h.get? l = none) : (l ≠ L ∧ h₀.get? l = none) ∧ ∀ p ∈ news, p.1 ≠ l := by
  refine ⟨⟨fun e => ?_, ?_⟩, fun p hp e => ?_⟩
  · obtain ⟨o, _, _, g, _⟩ := F.ns
    rw [e, g] at hn; cases hn
  · rcases e : h₀.get? l with _ | o
    · rfl
    · rw [F.keep _ _ e] at hn; cases hn
  · rw [← e, (N p hp).1] at hn; cases hn
theorem ints_3 {vs : List Value} {a b c : Int} (h : IntsAre vs [a, b, c]) : ∃ t0 t1 t2, vs = [.int a t0, .int b t1, .int c t2] := by
  cases h with
  | cons _ t0 h => cases h with
    | cons _ t1 h => cases h with
      | cons _ t2 h => cases h; exact ⟨t0, t1, t2, rfl⟩
theorem falls_ok (b : Int) : (-(Int.fmod b 2) + 1 + Int.fmod (Int.fdiv b 2) 2 < -(Int.fmod b 2) + 1 + Int.fmod (Int.fdiv b 2) 2 + 1 + Int.fmod (Int.fdiv b 4) 2 ∧ -(Int.fmod b 2) + 1 + Int.fmod (Int.fdiv b 2) 2 + 1 + Int.fmod (Int.fdiv b 4) 2 ≤ -(Int.fmod b 2) + 1 + Int.fmod (Int.fdiv b 2) 2 + 2) ∧
    (-(Int.fmod b 2) < -(Int.fmod b 2) + 1 + Int.fmod (Int.fdiv b 2) 2 ∧ -(Int.fmod b 2) + 1 + Int.fmod (Int.fdiv b 2) 2 ≤ -(Int.fmod b 2) + 2) ∧ -1 ≤ -(Int.fmod b 2) ∧ -(Int.fmod b 2) ≤ 0 := by
  have h : ∀ x : Int, 0 ≤ Int.fmod x 2 ∧ Int.fmod x 2 < 2 := fun x => ⟨Int.fmod_nonneg_of_pos x (by decide), Int.fmod_lt_of_pos x (by decide)⟩
  have h1 := h b
  have h2 := h (Int.fdiv b 2)
  have h3 := h (Int.fdiv b 4)
  omega
theorem low_ok (x : Int) : 0 ≤ Int.fmod x 2 ∧ Int.fmod x 2 ≤ 1 := by
  have h1 := Int.fmod_nonneg_of_pos x (b := 2) (by decide)
  have h2 := Int.fmod_lt_of_pos x (b := 2) (by decide)
  omega
theorem g9a {a b : Int} (h : a < b) (k : -1 ≤ a) : 0 ≤ b := by omega
theorem g9b {a b : Int} (h : a < b) (k : 0 ≤ a) : 0 ≤ b := by omega
theorem g9c {a b : Int} (h : b ≤ a + 2) (k : a ≤ 0) : b ≤ 2 := by omega
theorem g9d {a b : Int} (h : b ≤ a + 2) (k : a ≤ 2) : b ≤ 4 := by omega
theorem g9e {a b : Int} (h : 0 ≤ a) (k : b ≤ 0) : 0 ≤ a - b := by omega
theorem g9f {n : Nat} {x : Int} (e : x = n) (h : x ≤ 7) : n ≤ 7 := by omega
theorem g9g {a b c : Int} (h : a ≤ 1) (k : b ≤ 2) (l : c ≤ 4) : a + b + c ≤ 7 := by omega
theorem g9h {a b : Int} (h : a ≤ 1) (k : b ≤ 2) : a + b ≤ 7 := by omega
theorem g9i {a b : Int} (h : a ≤ 1) (k : -1 ≤ b) : a - b ≤ 7 := by omega
theorem geo_of {f0 f1 f2 low : Int} (hfo : (f1 < f0 ∧ f0 ≤ f1 + 2) ∧ (f2 < f1 ∧ f1 ≤ f2 + 2) ∧ -1 ≤ f2 ∧ f2 ≤ 0) (hlow : 0 ≤ low ∧ low ≤ 1) :
    ∃ h0 h1 h2 h3 : Nat, low + f1 + f0 = h0 ∧ low + f1 = h1 ∧ low - f2 = h3 ∧ low = h2 ∧ Geo h0 h1 h2 h3 f0 f1 f2 ∧ h0 ≤ 7 ∧ h1 ≤ 7 ∧ h2 ≤ 7 ∧ h3 ≤ 7 := by
  obtain ⟨⟨a1, a2⟩, ⟨b1, b2⟩, c1, c2⟩ := hfo
  have p1 := g9a b1 c1
  have p0 := g9b a1 p1
  have m1 := g9c b2 c2
  have m0 := g9d a2 m1
  obtain ⟨n2, e2⟩ := Int.eq_ofNat_of_zero_le hlow.1
  obtain ⟨n1, e1⟩ := Int.eq_ofNat_of_zero_le (Int.add_nonneg hlow.1 p1)
  obtain ⟨n0, e0⟩ := Int.eq_ofNat_of_zero_le (Int.add_nonneg (Int.add_nonneg hlow.1 p1) p0)
  obtain ⟨n3, e3⟩ := Int.eq_ofNat_of_zero_le (g9e hlow.1 c2)
  exact ⟨n0, n1, n2, n3, e0, e1, e3, e2, ⟨⟨by rw [← e0, ← e1], by rw [← e1, ← e2], by rw [← e2, ← e3, Int.sub_add_cancel]⟩, ⟨a1, b1, c1, c2⟩⟩,
    g9f e0 (g9g hlow.2 m1 m0), g9f e1 (g9h hlow.2 m1), g9f e2 (Int.le_trans hlow.2 (by decide)), g9f e3 (g9i hlow.2 c1)⟩
noncomputable def unitE (q x : Int) : Int := 1 + Int.fmod x (q - 1) + q * (Int.fmod (Int.fdiv x (q - 1)) 4 - 2)
theorem py_small {x d : Int} (h : 0 < d ∧ d ≤ 64) : Builtin.divisionGoesByPylong x d = false := by
  refine PyProof.noPylong_of_log2 ?_
  have h1 : d.natAbs < 2 ^ 7 := by omega
  have h2 : d.natAbs.log2 < 7 := (Nat.log2_lt (by omega)).mpr h1
  omega
theorem fd_small {prog : Program} {w : World} {A : Around} {E : Value → Shared → Prop} {s : Shared} {t u : Tok} {a d : Int} {Q : Value → Shared → Prop} (h : 0 < d ∧ d ≤ 64) (k : ∀ t tk, Q (.int (Int.fdiv a d) t) { s with toks := tk }) :
    wpAny (model prog w) A (binaryOp .FloorDiv (.int a t) (.int d u)) Q E s := floordiv_int (by omega) (k _ _) (Or.inl (py_small h))
theorem f4 (x : Int) : 0 ≤ Int.fmod x 4 ∧ Int.fmod x 4 < 4 := ⟨Int.fmod_nonneg_of_pos x (by decide), Int.fmod_lt_of_pos x (by decide)⟩
theorem units_of {q : Int} (hq : QP q) (a b c d : Int) : UnitsOk [unitE q a, unitE q b, unitE q c, unitE q d] q := fun k hk => by
  rcases k with _ | _ | _ | _ | k
  · exact unit_ok hq a
  · exact unit_ok hq b
  · exact unit_ok hq c
  · exact unit_ok hq d
  · omega
theorem ints_map_snoc {f : Int → Int} {l : List Int} {ys : List Value} {i : Nat} {x y : Int} {t : Tok} (hx : l[i]? = some x) (h : IntsAre ys ((l.map f).take i)) (e : f x = y) : IntsAre (ys ++ [.int y t]) ((l.map f).take (i + 1)) := by
  subst e
  rw [take_map_snoc hx]
  exact ksk_snoc h
/-- prime and depth -/
noncomputable def QD (q : Int) (d : Nat) : Prop := (q = 2 ∧ d = 6) ∨ (q = 3 ∧ d = 4) ∨ (q = 5 ∧ d = 3)
theorem QD.qp {q : Int} {d : Nat} (h : QD q d) : QP q := by
  rcases h with h | h | h
  · exact .inl h.1
  · exact .inr (.inl h.1)
  · exact .inr (.inr h.1)
end Mine
-- LawQ
namespace Mine
noncomputable def rowE (q : Int) (p : Int × Nat) : Int := p.1 * q ^ p.2
theorem pow7 {q : Int} (hq : 2 ≤ q ∧ q ≤ 5) {h : Nat} (h7 : h ≤ 7) : -(2 ^ 63) < q ^ h ∧ q ^ h < 2 ^ 63 := by
  obtain ⟨n, rfl⟩ : ∃ n : Nat, q = n := ⟨q.toNat, by omega⟩
  have h1 : n ^ h ≤ 5 ^ h := Nat.pow_le_pow_left (by omega) h
  have h2 : 5 ^ h ≤ 5 ^ 7 := Nat.pow_le_pow_right (by decide) h7
  have h3 : ((n ^ h : Nat) : Int) ≤ ((5 ^ 7 : Nat) : Int) := Int.ofNat_le.mpr (Nat.le_trans h1 h2)
  rw [← Int.natCast_pow]
  exact ⟨Int.lt_of_lt_of_le (by decide) (Int.natCast_nonneg _), Int.lt_of_le_of_lt h3 (by decide)⟩
theorem nats_at {a b c d : Nat} {ta tb tc td : Tok} {i : Nat} {v : Value} (h : ([.int a ta, .int b tb, .int c tc, .int d td] : List Value)[i]? = some v) : ∃ (n : Nat) (t : Tok), [a, b, c, d][i]? = some n ∧ v = .int n t := by
  rcases i with _ | _ | _ | _ | i
  · exact ⟨a, ta, rfl, (Option.some.inj h).symm⟩
  · exact ⟨b, tb, rfl, (Option.some.inj h).symm⟩
  · exact ⟨c, tc, rfl, (Option.some.inj h).symm⟩
  · exact ⟨d, td, rfl, (Option.some.inj h).symm⟩
  · cases h
theorem ints4_at {a b c d : Int} {ta tb tc td : Tok} {i : Nat} {v : Value} (h : ([.int a ta, .int b tb, .int c tc, .int d td] : List Value)[i]? = some v) : ∃ (n : Int) (t : Tok), [a, b, c, d][i]? = some n ∧ v = .int n t := by
  rcases i with _ | _ | _ | _ | i
  · exact ⟨a, ta, rfl, (Option.some.inj h).symm⟩
  · exact ⟨b, tb, rfl, (Option.some.inj h).symm⟩
  · exact ⟨c, tc, rfl, (Option.some.inj h).symm⟩
  · exact ⟨d, td, rfl, (Option.some.inj h).symm⟩
  · cases h
theorem four_le {a b c d n i : Nat} (ha : a ≤ 7) (hb : b ≤ 7) (hc : c ≤ 7) (hd : d ≤ 7) (h : [a, b, c, d][i]? = some n) : n ≤ 7 := by
  rcases i with _ | _ | _ | _ | i
  · exact Option.some.inj h ▸ ha
  · exact Option.some.inj h ▸ hb
  · exact Option.some.inj h ▸ hc
  · exact Option.some.inj h ▸ hd
  · cases h
theorem zip_map_snoc {q : Int} {us : List Int} {hs : List Nat} {i : Nat} {u : Int} {h : Nat} {ys : List Value} {t : Tok} (h1 : us[i]? = some u) (h2 : hs[i]? = some h) (hj : IntsAre ys (((us.zip hs).map (rowE q)).take i)) :
    IntsAre (ys ++ [.int (u * q ^ h) t]) (((us.zip hs).map (rowE q)).take (i + 1)) := by
  have e : (us.zip hs)[i]? = some (u, h) := List.getElem?_zip_eq_some.mpr ⟨h1, h2⟩
  rw [take_map_snoc e]
  exact ksk_snoc hj
/-- what is known of a number of the row -/
structure RowOk (q r : Int) (h : Nat) : Prop where
  ne : r ≠ 0
  bd : -1048576 < r ∧ r < 1048576
  tall : Int.fmod r (q ^ 9) ≠ 0
  ht : heightOf q r = h
theorem row_ok {q u : Int} (hq : QP q) (hu : Int.fmod u q ≠ 0 ∧ -10 ≤ u ∧ u ≤ 10) {h : Nat} (h7 : h ≤ 7) : RowOk q (u * q ^ h) h :=
  ⟨row_ne hq hu.1 h, row_small hq h7 hu.2, tall_unit hq hu.1 (by omega), height_unit hq hu.1 (by omega)⟩
noncomputable def rowsOk (q : Int) (rs : List Int) (hs : List Nat) : Prop := ∀ i, i < 4 → RowOk q (rs.getD i 0) (hs.getD i 0)
theorem rows_ok {q u0 u1 u2 u3 : Int} (hq : QP q) (hU : UnitsOk [u0, u1, u2, u3] q) {h0 h1 h2 h3 : Nat} (a : h0 ≤ 7) (b : h1 ≤ 7) (c : h2 ≤ 7) (d : h3 ≤ 7) : RowOk q (u0 * q ^ h0) h0 ∧ RowOk q (u1 * q ^ h1) h1 ∧ RowOk q (u2 * q ^ h2) h2 ∧ RowOk q (u3 * q ^ h3) h3 :=
  ⟨row_ok hq (hU 0 (by decide)) a, row_ok hq (hU 1 (by decide)) b, row_ok hq (hU 2 (by decide)) c, row_ok hq (hU 3 (by decide)) d⟩
end Mine
namespace Mine
/-- a number as the page spells it, as a text -/
noncomputable def wordT (r : Int) : Str := ⟨(wordC r).toArray⟩
theorem wordT_neg {r : Int} (h : r < 0) : Str.ofString "-" ++ letS (max r (-r)) = wordT r := by
  have em : Str.ofString "-" = ⟨#[45]⟩ := by decide
  unfold wordT wordC letS
  rw [if_pos h, em]
  show (⟨#[45] ++ _⟩ : Str) = _
  simp
theorem wordT_pos {r : Int} (h : ¬ r < 0) : Str.ofString "" ++ letS (max r (-r)) = wordT r := by
  have em : Str.ofString "" = ⟨#[]⟩ := by decide
  unfold wordT wordC letS
  rw [if_neg h, em]
  show (⟨#[] ++ _⟩ : Str) = _
  simp
theorem RowOk.big {q r : Int} {h : Nat} (R : RowOk q r h) : 0 ≤ max r (-r) ∧ max r (-r) < 1048576 := by
  have := R.bd
  omega
theorem rows4_at {q a b c d x : Int} {ha hb hc hd : Nat} {i : Nat} (h : [a, b, c, d][i]? = some x) (A : RowOk q a ha) (B : RowOk q b hb) (C : RowOk q c hc) (D : RowOk q d hd) : ∃ n, RowOk q x n := by
  rcases i with _ | _ | _ | _ | i
  · exact Option.some.inj h ▸ ⟨_, A⟩
  · exact Option.some.inj h ▸ ⟨_, B⟩
  · exact Option.some.inj h ▸ ⟨_, C⟩
  · exact Option.some.inj h ▸ ⟨_, D⟩
  · cases h
theorem strs_map_snoc {α : Type} {f : α → Str} {l : List α} {i : Nat} {x : α} {y : Str} {ys : List Value} {t : Tok} (hx : l[i]? = some x) (e : y = f x) (hj : StrsAre ys ((l.map f).take i)) : StrsAre (ys ++ [.str y t]) ((l.map f).take (i + 1)) := by
  subst e
  rw [take_map_snoc hx]
  exact hj.snoc _ _
theorem strs_four {vs : List Value} {a b c d : Str} (h : StrsAre vs [a, b, c, d]) : ∃ t0 t1 t2 t3, vs = [.str a t0, .str b t1, .str c t2, .str d t3] := by
  cases h with
  | cons _ t0 h => cases h with
    | cons _ t1 h => cases h with
      | cons _ t2 h => cases h with
        | cons _ t3 h => cases h; exact ⟨t0, t1, t2, t3, rfl⟩
end Mine
namespace Mine
theorem neg_max (x : Int) : (if -x > x then -x else x) = max x (-x) := by
  split <;> omega
end Mine
namespace Mine
theorem letS_len (n : Int) : (letS n).length < 100 := by
  have := (List.dropWhile_suffix (l := letC n) (· == 65)).length_le
  have h2 : (letC n).length = 5 := by simp [letC]
  show ((letC n).dropWhile (· == 65)).length < 100
  omega
end Mine
namespace Mine
noncomputable def wayE (q x : Int) : Int := Int.fmod (Int.fdiv x (4 * q - 4)) 4
noncomputable def pieceT (q : Int) (p : Int × Int × Nat) : Str := spell (wayE q p.2.1) (wordT p.1) ++ ⟨#[p.2.2]⟩
theorem pcs_at {r0 r1 r2 r3 x1 x2 x3 x4 : Int} {t0 t1 t2 t3 s1 s2 s3 s4 : Tok} {i : Nat} {v1 v2 : Value} {d : Nat} (h1 : ([.str (wordT r0) t0, .str (wordT r1) t1, .str (wordT r2) t2, .str (wordT r3) t3] : List Value)[i]? = some v1)
    (h2 : ([.int x1 s1, .int x2 s2, .int x3 s3, .int x4 s4] : List Value)[i]? = some v2) (h3 : (Str.ofString "\t\t\t\n").cps[i]? = some d) :
    ∃ r x t u, v1 = .str (wordT r) t ∧ v2 = .int x u ∧ [(r0, x1, 9), (r1, x2, 9), (r2, x3, 9), (r3, x4, 10)][i]? = some (r, x, d) := by
  have e : (Str.ofString "\t\t\t\n").cps = #[9, 9, 9, 10] := by decide
  rw [e] at h3
  rcases i with _ | _ | _ | _ | i
  · exact ⟨_, _, _, _, (Option.some.inj h1).symm, (Option.some.inj h2).symm, Option.some.inj h3 ▸ rfl⟩
  · exact ⟨_, _, _, _, (Option.some.inj h1).symm, (Option.some.inj h2).symm, Option.some.inj h3 ▸ rfl⟩
  · exact ⟨_, _, _, _, (Option.some.inj h1).symm, (Option.some.inj h2).symm, Option.some.inj h3 ▸ rfl⟩
  · exact ⟨_, _, _, _, (Option.some.inj h1).symm, (Option.some.inj h2).symm, Option.some.inj h3 ▸ rfl⟩
  · cases h1
theorem wordT_len (r : Int) : (wordT r).length < 100 := by
  have := wordC_len r
  show (wordC r).length < 100
  omega
theorem spell_len (w r : Int) : (spell w (wordT r)).length < 100 := by
  unfold wordT
  rw [spell_codes]
  have h1 := spellC_len w (wordC r)
  have h2 := wordC_len r
  show (spellC w (wordC r)).length < 100
  omega
end Mine
namespace Mine
theorem join_codes (ls : List (List Nat)) : Str.join (Str.ofString "") (ls.map fun l => (⟨l.toArray⟩ : Str)) = ⟨ls.flatten.toArray⟩ := by
  induction ls with
  | nil => rfl
  | cons c r ih =>
    cases r with
    | nil =>
      show (⟨c.toArray⟩ : Str) = _
      simp
    | cons d r =>
      have e : Str.ofString "" = ⟨#[]⟩ := by decide
      rw [List.map_cons, List.map_cons]
      show (⟨c.toArray⟩ : Str) ++ Str.ofString "" ++ Str.join (Str.ofString "") ((d :: r).map fun l => (⟨l.toArray⟩ : Str)) = _
      rw [ih, e]
      show (⟨c.toArray ++ #[] ++ ((d :: r).flatten).toArray⟩ : Str) = _
      congr 1; simp
noncomputable def pieceC (q : Int) (p : Int × Int × Nat) : List Nat := spellC (wayE q p.2.1) (wordC p.1) ++ [p.2.2]
theorem piece_codes (q : Int) (p : Int × Int × Nat) : pieceT q p = ⟨(pieceC q p).toArray⟩ := by
  unfold pieceT pieceC wordT
  rw [spell_codes]
  show (⟨_ ++ _⟩ : Str) = _
  congr 1; simp
noncomputable def headC (q : Int) : List Nat := (letC q).dropWhile (· == 65)
theorem page_codes (q : Int) (ps : List (Int × Int × Nat)) : letS q ++ Str.ofString "\n" ++ Str.join (Str.ofString "") (ps.map (pieceT q)) = ⟨(headC q ++ 10 :: (ps.map (pieceC q)).flatten).toArray⟩ := by
  have e : Str.ofString "\n" = ⟨#[10]⟩ := by decide
  have e2 : ps.map (pieceT q) = (ps.map (pieceC q)).map fun l => (⟨l.toArray⟩ : Str) := by
    rw [List.map_map]
    exact List.map_congr_left fun p _ => piece_codes q p
  rw [e2, join_codes, e]
  show (⟨((letC q).dropWhile (· == 65)).toArray ++ #[10] ++ _⟩ : Str) = _
  congr 1; simp [headC]
theorem piece_len (q : Int) (p : Int × Int × Nat) : (pieceC q p).length ≤ 16 := by
  have h1 := spellC_len (wayE q p.2.1) (wordC p.1)
  have h2 := wordC_len p.1
  unfold pieceC
  rw [List.length_append, List.length_singleton]
  omega
theorem head_len (q : Int) : (headC q).length ≤ 5 := by
  have := (List.dropWhile_suffix (l := letC q) (· == 65)).length_le
  have h2 : (letC q).length = 5 := by simp [letC]
  unfold headC
  omega
/-- what is left of the page behind the prime and k numbers -/
noncomputable def restP (q : Int) (ps : List (Int × Int × Nat)) (k : Nat) : List Nat := ((ps.drop k).map (pieceC q)).flatten
theorem rest_len (q : Int) : ∀ l : List (Int × Int × Nat), ((l.map (pieceC q)).flatten).length ≤ 16 * l.length
  | [] => Nat.le_refl _
  | p :: r => by
    have := rest_len q r
    have := piece_len q p
    simp only [List.map_cons, List.flatten_cons, List.length_append, List.length_cons]
    omega
theorem join4_sum (q : Int) (a b c d : Int × Int × Nat) : ([pieceT q a, pieceT q b, pieceT q c, pieceT q d].map (·.length)).sum + 4 ≤ 1048576 := by
  have h : ∀ p, (pieceT q p).length ≤ 16 := fun p => by rw [piece_codes]; exact piece_len q p
  have h1 := h a
  have h2 := h b
  have h3 := h c
  have h4 := h d
  simp only [List.map_cons, List.map_nil, List.sum_cons, List.sum_nil]
  omega
/-- the page -/
noncomputable def pageC (q : Int) (ps : List (Int × Int × Nat)) : List Nat := headC q ++ 10 :: restP q ps 0
theorem page_len (q : Int) (a b c d : Int × Int × Nat) : (pageC q [a, b, c, d]).length < 100 := by
  have h1 := head_len q
  have h2 := rest_len q [a, b, c, d]
  unfold pageC restP
  simp only [List.drop_zero, List.length_append, List.length_cons, List.length_nil] at h2 ⊢
  omega
end Mine
namespace Mine
theorem news_skip2 {h₀ h : Heap} {L : Addr} {a b : Addr × Obj} {r : Led} (N : News h₀ L h (a :: b :: r)) : News h₀ L h r := fun p hp => N p (.tail _ (.tail _ hp))
end Mine
namespace Mine
section
variable {prog : Program} {w : World} {A : Around} {E : Value → Shared → Prop} {s : Shared}
/-- the page's text -/
theorem add_page {q : Int} {ps : List (Int × Int × Nat)} {t u : Tok} {Q : Value → Shared → Prop} (hl : ps.length = 4) (h : ∀ t' tk, Q (.str ⟨(pageC q ps).toArray⟩ t') { s with toks := tk }) :
    wpAny (model prog w) A (binaryOp .Add (.str (letS q ++ Str.ofString "\n") t) (.str (Str.join (Str.ofString "") (ps.map (pieceT q))) u)) Q E s := by
  have e1 : Str.ofString "\n" = ⟨#[10]⟩ := by decide
  have e2 : ps.map (pieceT q) = (ps.map (pieceC q)).map fun l => (⟨l.toArray⟩ : Str) := by
    rw [List.map_map]
    exact List.map_congr_left fun p _ => piece_codes q p
  refine PyProof.Rows.add_str (fun t' tk => ?_) ?_
  · rw [page_codes]; exact h t' tk
  · rw [e2, join_codes, e1]
    have h1 := letS_len q
    have h2 := rest_len q ps
    have h3 : (letS q ++ (⟨#[10]⟩ : Str)).length = (letS q).length + 1 := by
      show ((letS q).cps ++ #[10]).size = _
      rw [Array.size_append]; rfl
    show (letS q ++ (⟨#[10]⟩ : Str)).length + ((ps.map (pieceC q)).flatten).length ≤ sizeLine
    rw [h3, sizeLine_eq]
    omega
end
/-- all of a lexer's parts -/
noncomputable abbrev lexAll (lx dx tp D rd c0 cc sg pb : Addr) (K : LK) (n : Int) (tn : Tok) (fdl fdr : FuncData) (co cco : Obj) (hsh : Int) (key : Tok) (xs : List Value) (ep epb : Nat) : Led :=
  (pb, W.listOf ([] : List Value).toArray epb) :: strmSub lx dx tp D rd c0 cc sg pb K n tn fdl fdr co cco hsh key xs ep
theorem codeHd_keep {g h : Heap} {L : Addr} {m : Str → Option Value} (F : Fr g L h m) (c : CodeHd g 300 296) : CodeHd h 300 296 := by
  obtain ⟨o9, vs9, z1, z2, z3, z4, z5, z6, z7, e6, e7⟩ := c
  exact ⟨o9, vs9, z1, z2, z3, z4, z5, z6, z7, F.keep _ _ e6, e7⟩
section
variable {w : World} {p : Program} {loose : List Str} {mean : ExcName → Option Value} {mg mb : Str → Option Value} {dp un : Nat} {gd : Option (List Code)} {cn : Str} {cs : Scope} {a : Addr} {ccd : Value} {cl : List (Str × Addr)} {outer : List Env} {A₀ : Around} {base h₀ : Heap} {L : Addr} {m : Str → Option Value} {s : Shared} {Q E : Value → Shared → Prop}
theorem use_lexer {x : Str} {tx : Tok} {rest : Led} (hx : x.length < 1000) (B : Below A₀ base outer h₀) (F : Fr h₀ L s.heap m) (X : (hd.heap_1 w.params).In h₀) (T : Top p loose mean mg mb h₀) (hk : cs.kind = .function) (N : News h₀ L s.heap (rest ++ [(296, tabObj #[])]))
    (hne : ∀ p ∈ rest, p.1 ≠ 296) (hpre : CodeHd h₀ 300 296) (hd : dp + 3 < recursionLimit) (hu : un + 20 * 3 < cLine)
    (ret : ∀ (lx dx tp D rd c0 cc sg pb : Addr) (K : LK) (tn : Tok) (fdl fdr : FuncData) (co cco : Obj) (hsh : Int) (key : Tok) (vs : List Value) (ep : Nat) h' tk', ReadOk rd c0 cc sg fdr co cco → Chars vs x.cps.toList → strmApart lx dx tp D rd c0 cc sg → pbApart lx dx tp D rd c0 cc sg pb →
      ∀ ps, (∀ q ∈ lexAll lx dx tp D rd c0 cc sg pb K 1 tn fdl fdr co cco hsh key vs ep 0, ∀ p ∈ rest ++ [(296, tabObj ps)], p.1 ≠ q.1) → Fr h₀ L h' m → News h₀ L h' (lexAll lx dx tp D rd c0 cc sg pb K 1 tn fdl fdr co cco hsh key vs ep 0 ++ (rest ++ [(296, tabObj ps)])) → Q (.ref lx) { s with heap := h', toks := tk' }) :
    wpAny (model Challenge.rw_wj0057_01.row.prog w) (ktrTop dp un gd cn cs L a ccd cl outer) (call (.ref 301) [.str x tx] []) Q E s := by
  refine cl_gen (cl_lexer x tx hx) B F X T hk N (fun q hq => List.mem_append_right _ hq) (codeHd_keep F hpre) hd hu fun v h' tk' F' k hp => ?_
  obtain ⟨lx, dx, tp, D, rd, c0, cc, sg, pb, K, tn, fdl, fdr, co, cco, hsh, key, vs, ep, rfl, R, C, a1, a2, ⟨ps, hps⟩, hq⟩ := hp
  refine ret lx dx tp D rd c0 cc sg pb K tn fdl fdr co cco hsh key vs ep h' tk' R C a1 a2 ps (fun q hm p hp => ?_) F' fun q hm => ?_
  · have z := (new_apart F N (hq q hm).2).2
    rcases List.mem_append.mp hp with hp | hp
    · exact z p (List.mem_append_left _ hp)
    · rw [List.mem_singleton.mp hp]
      exact z (296, tabObj #[]) (List.mem_append_right _ (.head _))
  · rcases List.mem_append.mp hm with hm | hm
    · exact ⟨(hq q hm).1, (new_apart F N (hq q hm).2).1⟩
    rcases List.mem_append.mp hm with hm | hm
    · have z := N q (List.mem_append_left _ hm)
      exact ⟨k _ _ z.1 (by simpa using hne q hm), z.2⟩
    · rw [List.mem_singleton.mp hm]
      exact ⟨hps, (N (296, tabObj #[]) (List.mem_append_right _ (.head _))).2⟩
end
end Mine
namespace Mine
theorem ne_tab {g h : Heap} {L a : Addr} {o : Obj} {news : Led} (N : News g L h news) (h1 : (a, o) ∈ news) (h2 : (296, tabObj #[]) ∈ news) (hc : o.cls ≠ (tabObj #[]).cls) : a ≠ 296 := fun e => by
  have e1 := (N _ h1).1
  have e2 := (N _ h2).1
  dsimp only at e1 e2
  rw [e, e2] at e1
  exact hc (congrArg Obj.cls (Option.some.inj e1)).symm
end Mine
namespace Mine
theorem news_subl {h₀ h : Heap} {L : Addr} {l₁ l₂ : Led} (N : News h₀ L h l₂) (s : l₁.Sublist l₂) : News h₀ L h l₁ := fun p hp => N p (s.subset hp)
section
variable {prog : Program} {w : World} {A : Around} {E : Value → Shared → Prop} {s : Shared} {h₀ : Heap} {L : Addr} {m : Str → Option Value} {env : Env}
theorem store_cell {x : Str} {c : Addr} {oc : Obj} {v : Value} {v0 : Option Value} {rest : Led} {Q : Unit → Shared → Prop} (hk : env.scope.kind = .function) (hx : env.kindOf x = some .cell) (hc : env.cells.lookup x = some c)
    (F : Fr h₀ L s.heap m) (N : News h₀ L s.heap ((c, oc) :: rest)) (hd : oc.data = .cell v0) (hne : ∀ p ∈ rest, p.1 ≠ c) (h : ∀ oc' h', oc'.data = .cell (some v) → Fr h₀ L h' m → News h₀ L h' ((c, oc') :: rest) → Q () { s with heap := h' }) :
    wpAny (model prog w) A (storeName env x v) Q E s := by
  have z := N _ (.head _)
  refine wpAny_storeName_cell hk hx hc ⟨oc, z.1, hd⟩ fun h' hc' hs => ?_
  obtain ⟨oc', e', d'⟩ := hc'
  refine h oc' h' d' (F.change hs z.2.1 z.2.2) fun p hp => ?_
  rcases List.mem_cons.mp hp with rfl | hp
  · exact ⟨e', z.2⟩
  · have y := N p (.tail _ hp)
    exact ⟨hs.extBut _ _ (hne p hp) y.1, y.2⟩
end
/-- one entry of the middle to the head -/
theorem news_mid {h₀ h : Heap} {L : Addr} {x : Addr × Obj} {l r : Led} (N : News h₀ L h (l ++ x :: r)) : News h₀ L h (x :: (l ++ r)) := fun p hp => N p (by
  rcases List.mem_cons.mp hp with rfl | hp
  · exact List.mem_append_right _ (.head _)
  · rcases List.mem_append.mp hp with hp | hp
    · exact List.mem_append_left _ hp
    · exact List.mem_append_right _ (.tail _ hp))
theorem off_app {l r : Led} {c : Addr} (h1 : ∀ q ∈ l, q.1 ≠ c) (h2 : ∀ q ∈ r, q.1 ≠ c) : ∀ q ∈ l ++ r, q.1 ≠ c := fun q hq => by
  rcases List.mem_append.mp hq with hq | hq
  · exact h1 q hq
  · exact h2 q hq
end Mine
namespace Mine
theorem off_nil {c : Addr} : ∀ p ∈ ([] : Led), p.1 ≠ c := fun _ h => nomatch h
theorem off_cons {a c : Addr} {o : Obj} {l : Led} (h : a ≠ c) (t : ∀ p ∈ l, p.1 ≠ c) : ∀ p ∈ (a, o) :: l, p.1 ≠ c := fun p hp => by
  rcases List.mem_cons.mp hp with rfl | hp
  · exact h
  · exact t p hp
theorem far296 {L : Nat} (h : 296 < L) : L + 1 + 1 + 1 + 1 ≠ 296 ∧ L + 1 + 1 + 1 ≠ 296 ∧ L + 1 + 1 ≠ 296 ∧ L + 1 ≠ 296 := by omega
theorem ne_tab_list {g h : Heap} {L a : Addr} {vs : Array Value} {n : Nat} {news : Led} (N : News g L h news) (h1 : (a, W.listOf vs n) ∈ news) (h2 : (296, tabObj #[]) ∈ news) : a ≠ 296 := ne_tab N h1 h2 nofun
end Mine
namespace Mine
theorem ne_tab_l {g h : Heap} {L a : Addr} {o : Obj} {l : Led} (N : News g L h (l ++ [(296, tabObj #[])])) (h1 : (a, o) ∈ l) (hc : o.cls = .type "list") : a ≠ 296 :=
  ne_tab N (List.mem_append_left _ h1) (List.mem_append_right _ (.head _)) fun e => by rw [hc] at e; cases e
end Mine
namespace Mine
theorem off_list {g h : Heap} {L a c : Addr} {o oc : Obj} {v : Option Value} {vs : Array Value} {n : Nat} {rest : Led} (N : News g L h ((c, oc) :: rest)) (hd : oc.data = .cell v) (h1 : (a, o) ∈ rest) (hs : o.data = .seq vs n) : a ≠ c := fun e => by
  have e1 := (N _ (.tail _ h1)).1
  have e2 := (N _ (.head _)).1
  dsimp only at e1 e2
  rw [e, e2] at e1
  have := Option.some.inj e1
  rw [← this, hd] at hs; cases hs
theorem cells_off (L : Nat) : L + 1 + 1 + 1 ≠ L + 1 + 1 + 1 + 1 ∧ L + 1 + 1 ≠ L + 1 + 1 + 1 + 1 ∧ L + 1 ≠ L + 1 + 1 + 1 + 1 := by omega
end Mine
namespace Mine
/-- addresses apart -/
noncomputable def OffA (as bs : List Addr) : Prop := ∀ a ∈ as, ∀ b ∈ bs, b ≠ a
theorem offA_of {l r : Led} (h : ∀ q ∈ l, ∀ p ∈ r, p.1 ≠ q.1) : OffA (l.map (·.1)) (r.map (·.1)) := fun a ha b hb => by
  obtain ⟨q, hq, rfl⟩ := List.mem_map.mp ha
  obtain ⟨p, hp, rfl⟩ := List.mem_map.mp hb
  exact h q hq p hp
theorem OffA.cons {as bs : List Addr} {b : Addr} (h : OffA as bs) (n : ∀ a ∈ as, b ≠ a) : OffA as (b :: bs) := fun a ha c hc => by
  rcases List.mem_cons.mp hc with rfl | hc
  · exact n a ha
  · exact h a ha c hc
theorem OffA.sub {as bs cs : List Addr} (h : OffA as bs) (s : cs ⊆ bs) : OffA as cs := fun a ha c hc => h a ha c (s hc)
theorem news_in {h₀ h : Heap} {L : Addr} {x : Addr × Obj} {l r t : Led} (N : News h₀ L h (x :: ((l ++ r) ++ t))) : News h₀ L h (l ++ (x :: (r ++ t))) := fun p hp => N p (by
  rcases List.mem_append.mp hp with hp | hp
  · exact .tail _ (List.mem_append_left _ (List.mem_append_left _ hp))
  rcases List.mem_cons.mp hp with rfl | hp
  · exact .head _
  rcases List.mem_append.mp hp with hp | hp
  · exact .tail _ (List.mem_append_left _ (List.mem_append_right _ hp))
  · exact .tail _ (List.mem_append_right _ hp))
noncomputable abbrev lexAs (lx dx tp D rd c0 cc sg pb : Addr) : List Addr := [pb, lx, dx, tp, D, rd, c0, cc, sg]
section
variable {w : World} {p : Program} {loose : List Str} {mean : ExcName → Option Value} {mg mb : Str → Option Value} {dp un : Nat} {gd : Option (List Code)} {cn : Str} {cs : Scope} {a : Addr} {ccd : Value} {cl : List (Str × Addr)} {outer : List Env} {A₀ : Around} {base h₀ : Heap} {L : Addr} {m : Str → Option Value} {s : Shared} {Q E : Value → Shared → Prop}
theorem use_get {lx dx tp D rd c0 cc sg pb : Addr} {K : LK} {n : Int} {tn : Tok} {fdl fdr : FuncData} {co cco : Obj} {hsh : Int} {key : Tok} {vs : List Value} {ep epb : Nat} {xs tok r : List Nat} {rest : Led}
    (R : ReadOk rd c0 cc sg fdr co cco) (A1 : strmApart lx dx tp D rd c0 cc sg) (A2 : pbApart lx dx tp D rd c0 cc sg pb) (O : OffA (lexAs lx dx tp D rd c0 cc sg pb) (rest.map (·.1))) (C : Chars vs xs) (hz : xs.length < 1000) (hG : startG xs = some (tok, r))
    (B : Below A₀ base outer h₀) (F : Fr h₀ L s.heap m) (X : (hd.heap_1 w.params).In h₀) (T : Top p loose mean mg mb h₀) (hk : cs.kind = .function) (N : News h₀ L s.heap (lexAll lx dx tp D rd c0 cc sg pb K n tn fdl fdr co cco hsh key vs ep epb ++ rest))
    (hd : dp + 4 < recursionLimit) (hu : un + 20 * 4 < cLine)
    (ret : ∀ t vs' n' tn' ep' h' tk', Chars vs' r → n' + nls r = n + nls xs → Fr h₀ L h' m → News h₀ L h' (lexAll lx dx tp D rd c0 cc sg pb K n' tn' fdl fdr co cco hsh key vs' ep' epb ++ rest) → Q (.str (txtN tok) t) { s with heap := h', toks := tk' }) :
    wpAny (model Challenge.rw_wj0057_01.row.prog w) (ktrTop dp un gd cn cs L a ccd cl outer) (call (.ref 108) [.ref lx] []) Q E s := by
  refine cl_gen (cl_get lx dx tp D rd c0 cc sg pb K n tn fdl fdr co cco hsh key vs ep epb xs tok r C hz R hG) B F X T hk N (fun q hq => List.mem_append_left _ hq) ⟨A1, A2.1.1, A2.1.2.1⟩ hd hu fun v h' tk' F' k hp => ?_
  obtain ⟨⟨t, rfl⟩, vs', n', tn', ep', C', e', hq⟩ := hp
  refine ret t vs' n' tn' ep' h' tk' C' e' F' fun q hm => ?_
  rcases List.mem_append.mp hm with hm | hm
  · have same : q.1 ∈ lexAs lx dx tp D rd c0 cc sg pb := List.mem_map_of_mem (f := (·.1)) hm
    have mem : q.1 ∈ (lexAll lx dx tp D rd c0 cc sg pb K n tn fdl fdr co cco hsh key vs ep epb).map (·.1) := same
    obtain ⟨q0, h0, e0⟩ := List.mem_map.mp mem
    exact ⟨hq q hm, e0 ▸ (N q0 (List.mem_append_left _ h0)).2⟩
  · have z := N q (List.mem_append_right _ hm)
    refine ⟨k _ _ z.1 fun hb => ?_, z.2⟩
    exact O q.1 hb q.1 (List.mem_map_of_mem hm) rfl
end
/-- one word of the page -/
theorem read_word {q : Int} {r : Int} {x : Int} {d : Nat} {h : Nat} (hR : RowOk q r h) (hd : wsC d = true) {s rest : List Nat} (ha : After s (pieceC q (r, x, d) ++ rest)) : ∃ s', startG s = some (wordC r, s') ∧ After s' rest := by
  obtain ⟨s', e, a⟩ := lex_word (way := wayE q x) (cs := wordC r) (rest := rest) (e := d) (wordC_ok hR.ne hR.bd) hd
  refine ⟨s', ?_, a⟩
  rw [startG_after ha, ← e]
  unfold pieceC
  rw [List.append_assoc]; rfl
theorem head_ok {q : Int} (hq : QP q) : WordOk (headC q) ∧ sgnOf ⟨(headC q).toArray⟩ = q := by
  have h : 0 < q ∧ q < 1048576 := by rcases hq with rfl | rfl | rfl <;> decide
  have e : headC q = wordC q := by
    unfold headC wordC
    rw [if_neg (by omega), show max q (-q) = q by omega]; rfl
  rw [e]
  exact ⟨wordC_ok (by omega) ⟨by omega, h.2⟩, sgn_word (by omega) ⟨by omega, h.2⟩⟩
theorem head_nls {q : Int} (hq : QP q) : nls (headC q) = 0 := by
  rcases hq with rfl | rfl | rfl <;> decide
theorem read_head {q : Int} (hq : QP q) (ps : List (Int × Int × Nat)) : ∃ s, startG (pageC q ps) = some (headC q, s) ∧ After s (restP q ps 0) := by
  have := lex_word (way := 0) (rest := restP q ps 0) (e := 10) (head_ok hq).1 rfl
  exact this
end Mine
namespace Mine
theorem after_len {s rest : List Nat} (h : After s rest) : s.length ≤ rest.length + 1 := by
  rcases h with rfl | ⟨e, _, rfl⟩
  · omega
  · simp
theorem piece_nls {q r x : Int} {d h : Nat} (hR : RowOk q r h) : nls (pieceC q (r, x, d)) = nls [d] := by
  unfold pieceC
  rw [nls_append, spellC_nls (wordC_ok hR.ne hR.bd)]
  exact Int.zero_add _
theorem rest_4 (q : Int) (a b c d : Int × Int × Nat) : restP q [a, b, c, d] 0 = pieceC q a ++ (pieceC q b ++ (pieceC q c ++ (pieceC q d ++ []))) := rfl
theorem page_nls {q r0 r1 r2 r3 x1 x2 x3 x4 : Int} {h0 h1 h2 h3 : Nat} (hq : QP q) (A : RowOk q r0 h0) (B : RowOk q r1 h1) (C : RowOk q r2 h2) (D : RowOk q r3 h3) : nls (pageC q [(r0, x1, 9), (r1, x2, 9), (r2, x3, 9), (r3, x4, 10)]) = 2 := by
  unfold pageC
  rw [rest_4, nls_append, nls_cons, head_nls hq, nls_append, nls_append, nls_append, nls_append, piece_nls A, piece_nls B, piece_nls C, piece_nls D]
  decide
theorem restP_len (q : Int) (a b c d : Int × Int × Nat) (k : Nat) : (restP q [a, b, c, d] k).length ≤ 64 := by
  have h := rest_len q ([a, b, c, d].drop k)
  have : ([a, b, c, d].drop k).length ≤ 4 := by simp
  unfold restP
  omega
theorem restP_step {q : Int} {ps : List (Int × Int × Nat)} {k : Nat} {p : Int × Int × Nat} (h : ps[k]? = some p) : restP q ps k = pieceC q p ++ restP q ps (k + 1) := by
  unfold restP
  have hk : k < ps.length := by
    rcases Nat.lt_or_ge k ps.length with c | c
    · exact c
    · rw [List.getElem?_eq_none c] at h; cases h
  rw [List.drop_eq_getElem_cons hk]
  rw [List.getElem?_eq_getElem hk] at h
  rw [Option.some.inj h]
  rfl
end Mine
namespace Mine
theorem sub_mid {α : Type} (a b c d x y z w v : α) : [x, a, b, c, d, y, z, w, v] ⊆ [a, b, c, d, x, y, z, w, v] := fun p hp => by
  simp only [List.mem_cons, List.not_mem_nil, or_false] at hp ⊢
  rcases hp with h | h | h | h | h | h | h | h | h <;> simp [h]
end Mine
namespace Mine
theorem callF0 {prog : Program} {w : World} {A : Around} {E : Value → Shared → Prop} {s : Shared} {env : Env} {K : Frag} {h₀ : Heap} {L : Addr} {m : Str → Option Value} {pos : Pos} {f : Value} {first : List Value} {Q : Value → Shared → Prop} (F : Fr h₀ L s.heap m) (X : K.In h₀) (hk : keepIn K f = true) (h : wpAny (model prog w) A (call f (first ++ [])) Q E s) :
    wpAny (model prog w) A (callWith pos f first (backTo pos (starEach [] env)) []) Q E s := callWith_K0 (X.keeps F.keep) hk h
end Mine
namespace Mine
/-- the reading of the numbers: the lexer's parts, what is left of the page, the numbers so far -/
noncomputable def RdJ (mk : Int → Tok → List Value → Nat → Led) (q : Int) (ps : List (Int × Int × Nat)) (rs : List Int) (i : Nat) (ys : List Value) (nx : Led) : Prop :=
  ∃ n tn vs ep s, nx = mk n tn vs ep ∧ Chars vs s ∧ After s (restP q ps i) ∧ n + nls s = 3 ∧ IntsAre ys (rs.take i)
theorem offA_three {as : List Addr} {l r : Led} {I C D : Addr} (h : OffA as (r.map (·.1))) (hl : l.map (·.1) = as) (l1 : ∀ p ∈ l ++ r, @LT.lt Nat _ p.1 I) (l2 : @LT.lt Nat _ I D) (l3 : @LT.lt Nat _ D C) (o1 o2 o3 : Obj) :
    OffA as (((I, o1) :: (C, o2) :: (D, o3) :: r).map (·.1)) := by
  have lt : ∀ a ∈ as, @LT.lt Nat _ a I := fun a ha => by
    obtain ⟨p, hp, rfl⟩ := List.mem_map.mp (hl ▸ ha)
    exact l1 p (List.mem_append_left _ hp)
  exact OffA.cons (OffA.cons (OffA.cons h fun a ha => Nat.ne_of_gt (Nat.lt_trans (lt a ha) l2)) fun a ha => Nat.ne_of_gt (Nat.lt_trans (lt a ha) (Nat.lt_trans l2 l3))) fun a ha => Nat.ne_of_gt (lt a ha)
theorem news_rot {h₀ h : Heap} {L : Addr} {a b c : Addr × Obj} {l r : Led} (N : News h₀ L h (a :: b :: c :: (l ++ r))) : News h₀ L h (l ++ (a :: b :: c :: r)) := fun p hp => N p (by
  rcases List.mem_append.mp hp with hp | hp
  · exact .tail _ (.tail _ (.tail _ (List.mem_append_left _ hp)))
  rcases List.mem_cons.mp hp with rfl | hp
  · exact .head _
  rcases List.mem_cons.mp hp with rfl | hp
  · exact .tail _ (.head _)
  rcases List.mem_cons.mp hp with rfl | hp
  · exact .tail _ (.tail _ (.head _))
  · exact .tail _ (.tail _ (.tail _ (List.mem_append_right _ hp))))
theorem news_tor {h₀ h : Heap} {L : Addr} {a b c : Addr × Obj} {l r : Led} (N : News h₀ L h (l ++ (a :: b :: c :: r))) : News h₀ L h (a :: b :: c :: (l ++ r)) := fun p hp => N p (by
  rcases List.mem_cons.mp hp with rfl | hp
  · exact List.mem_append_right _ (.head _)
  rcases List.mem_cons.mp hp with rfl | hp
  · exact List.mem_append_right _ (.tail _ (.head _))
  rcases List.mem_cons.mp hp with rfl | hp
  · exact List.mem_append_right _ (.tail _ (.tail _ (.head _)))
  rcases List.mem_append.mp hp with hp | hp
  · exact List.mem_append_left _ hp
  · exact List.mem_append_right _ (.tail _ (.tail _ (.tail _ hp))))
theorem ps_at {q a b c d x1 x2 x3 x4 : Int} {ha hb hc hd : Nat} {i : Nat} (hi : i < 4) (A : RowOk q a ha) (B : RowOk q b hb) (C : RowOk q c hc) (D : RowOk q d hd) :
    ∃ r x e n, [(a, x1, 9), (b, x2, 9), (c, x3, 9), (d, x4, 10)][i]? = some (r, x, e) ∧ [a, b, c, d][i]? = some r ∧ wsC e = true ∧ RowOk q r n := by
  rcases i with _ | _ | _ | _ | i
  · exact ⟨a, x1, 9, _, rfl, rfl, rfl, A⟩
  · exact ⟨b, x2, 9, _, rfl, rfl, rfl, B⟩
  · exact ⟨c, x3, 9, _, rfl, rfl, rfl, C⟩
  · exact ⟨d, x4, 10, _, rfl, rfl, rfl, D⟩
  · omega
theorem read_at {q a b c d x1 x2 x3 x4 : Int} {ha hb hc hd : Nat} {i : Nat} {s : List Nat} (hi : i < 4) (A : RowOk q a ha) (B : RowOk q b hb) (C : RowOk q c hc) (D : RowOk q d hd) (h : After s (restP q [(a, x1, 9), (b, x2, 9), (c, x3, 9), (d, x4, 10)] i)) :
    ∃ r s', [a, b, c, d][i]? = some r ∧ startG s = some (wordC r, s') ∧ After s' (restP q [(a, x1, 9), (b, x2, 9), (c, x3, 9), (d, x4, 10)] (i + 1)) ∧ sgnOf ⟨(wordC r).toArray⟩ = r ∧ s.length < 1000 := by
  obtain ⟨r, x, e, n, h1, h2, h3, h4⟩ := ps_at (x1 := x1) (x2 := x2) (x3 := x3) (x4 := x4) hi A B C D
  have hl := after_len h
  have hl2 := restP_len q (a, x1, 9) (b, x2, 9) (c, x3, 9) (d, x4, 10) i
  rw [restP_step h1] at h
  obtain ⟨s', g, a'⟩ := read_word h4 h3 h
  exact ⟨r, s', h2, g, a', sgn_word h4.ne h4.bd, by omega⟩
theorem ints_take_snoc {l : List Int} {i : Nat} {x : Int} {t : Tok} {ys : List Value} (e : l[i]? = some x) (h : IntsAre ys (l.take i)) : IntsAre (ys ++ [.int x t]) (l.take (i + 1)) := by
  rw [List.take_add_one, e]
  exact ksk_snoc h
end Mine
namespace Mine
theorem off1_all {D : Addr} : ∀ {l : Led}, PyProof.Rows.LCg.Off1 D l → ∀ p ∈ l, p.1 ≠ D
  | [], _, _, h => nomatch h
  | _ :: _, o, p, hp => by
    rcases List.mem_cons.mp hp with rfl | hp
    · exact o.1
    · exact off1_all o.2 p hp
theorem offA_new {as : List Addr} {l r : Led} {D : Addr} {o : Obj} (h : OffA as (r.map (·.1))) (hl : l.map (·.1) = as) (n : PyProof.Rows.LCg.Off1 D (l ++ r)) : OffA as (((D, o) :: r).map (·.1)) := OffA.cons h fun a ha => by
  obtain ⟨p, hp, rfl⟩ := List.mem_map.mp (hl ▸ ha)
  exact Ne.symm (off1_all n p (List.mem_append_left _ hp))
theorem news_in1 {h₀ h : Heap} {L : Addr} {x : Addr × Obj} {l r : Led} (N : News h₀ L h (x :: (l ++ r))) : News h₀ L h (l ++ (x :: r)) := fun p hp => N p (by
  rcases List.mem_append.mp hp with hp | hp
  · exact .tail _ (List.mem_append_left _ hp)
  rcases List.mem_cons.mp hp with rfl | hp
  · exact .head _
  · exact .tail _ (List.mem_append_right _ hp))
theorem qd_facts {q : Int} {d : Nat} (h : QD q d) : d ≤ 6 ∧ q ^ d ≤ 125 := by
  rcases h with ⟨rfl, rfl⟩ | ⟨rfl, rfl⟩ | ⟨rfl, rfl⟩ <;> decide
theorem all_tall {q a b c d : Int} {ha hb hc hd : Nat} (A : RowOk q a ha) (B : RowOk q b hb) (C : RowOk q c hc) (D : RowOk q d hd) : AllTall q [a, b, c, d] := fun n hn => by
  simp only [List.mem_cons, List.not_mem_nil, or_false] at hn
  rcases hn with rfl | rfl | rfl | rfl
  · exact A.tall
  · exact B.tall
  · exact C.tall
  · exact D.tall
theorem lo_small {q a : Int} {h0 h1 h2 h3 : Nat} (hq : 2 ≤ q ∧ q ≤ 5) (A : RowOk q a h0) (N : Nat) : loAt h0 h1 h2 h3 N ≤ 15 := by
  have h := (height_ok hq A.tall).1
  rw [A.ht] at h
  unfold loAt
  omega
section
variable {w : World} {p : Program} {loose : List Str} {mean : ExcName → Option Value} {mg mb : Str → Option Value} {dp un : Nat} {gd : Option (List Code)} {cn : Str} {cs : Scope} {a : Addr} {ccd : Value} {cl : List (Str × Addr)} {outer : List Env} {A₀ : Around} {base h₀ : Heap} {L : Addr} {m : Str → Option Value} {s : Shared} {Q E : Value → Shared → Prop}
theorem use_sides {q r0 r1 r2 r3 : Int} {tq td t0 t1 t2 t3 : Tok} {rv : Addr} {d h0 h1 h2 h3 ep : Nat} {news : Led} (hqd : QD q d) (R0 : RowOk q r0 h0) (R1 : RowOk q r1 h1) (R2 : RowOk q r2 h2) (R3 : RowOk q r3 h3)
    (B : Below A₀ base outer h₀) (F : Fr h₀ L s.heap m) (X : (hd.heap_1 w.params).In h₀) (T : Top p loose mean mg mb h₀) (hk : cs.kind = .function) (N : News h₀ L s.heap news) (hm : (rv, W.listOf [.int r0 t0, .int r1 t1, .int r2 t2, .int r3 t3].toArray ep) ∈ news)
    (hd : dp + 4 < recursionLimit) (hu : un + 20 * 4 < cLine)
    (ret : ∀ (hx hdx hl : Addr) (hh : Int) (hk : Tok) (vs : List Value) (ep' : Nat) (tl : Led) h' tk', vs.length = d → HdrOk (loAt h0 h1 h2 h3) vs tl → (@LT.lt Nat _ hdx hx ∧ @LT.lt Nat _ hx hl) → GtL hl tl → (∀ q ∈ hdrLed hx hdx hl hh hk vs ep' tl, ∀ p ∈ news, p.1 ≠ q.1) →
      Fr h₀ L h' m → News h₀ L h' (hdrLed hx hdx hl hh hk vs ep' tl ++ news) → Q (.ref hx) { s with heap := h', toks := tk' }) :
    wpAny (model Challenge.rw_wj0057_01.row.prog w) (ktrTop dp un gd cn cs L a ccd cl outer) (call (.ref 327) [.ref rv, .int q tq, .int d td] []) Q E s := by
  have hq5 := (qp5 hqd.qp).1
  have C := cl_sides r0 r1 r2 r3 rv tq td t0 t1 t2 t3 q d ep (qd_facts hqd).1 hq5 (all_tall R0 R1 R2 R3) (fun N _ => by rw [R0.ht, R1.ht, R2.ht, R3.ht]; exact lo_small hq5 R0 N)
  rw [R0.ht, R1.ht, R2.ht, R3.ht] at C
  refine cl_gen C B F X T hk N (fun q hq => by rw [List.mem_singleton.mp hq]; exact hm) trivial hd hu fun v h' tk' F' k hp => ?_
  obtain ⟨⟨hx, hdx, hl, hh, hk, vs, ep', tl, rfl, e1, e2, hq, e3, e4⟩, hrv⟩ := hp
  refine ret hx hdx hl hh hk vs ep' tl h' tk' e1 e2 e3 e4 (fun q hm p hp => (new_apart F N (hq q hm).2).2 p hp) F' fun q hm' => ?_
  rcases List.mem_append.mp hm' with hm' | hm'
  · exact ⟨(hq q hm').1, (new_apart F N (hq q hm').2).1⟩
  · have z := N q hm'
    refine ⟨?_, z.2⟩
    by_cases e : q.1 = rv
    · have z0 := (N _ hm).1
      have z1 := z.1
      dsimp only at z0
      rw [e, z0] at z1
      rw [e, hrv, ← Option.some.inj z1]
    · exact k _ _ z.1 (by simpa using e)
end
end Mine
namespace Mine
theorem law_order {h₀ h : Heap} {L : Addr} {a b c x0 x1 x2 x3 x4 x5 x6 x7 x8 r d e f i j k3 k2 k1 k5 : Addr × Obj} {tl : Led} (N : News h₀ L h ((a :: b :: c :: tl) ++ [x0, x1, x2, x3, x4, x5, x6, x7, x8, r, d, e, f, i, j, k3, k2, k1, k5])) :
    News h₀ L h (a :: b :: c :: k3 :: k2 :: k1 :: i :: j :: ([x0, x1, x2, x3, x4, x5, x6, x7, x8, r, d, e, f, k5] ++ tl)) := by
  have A : ∀ p ∈ a :: b :: c :: tl, h.get? p.1 = some p.2 ∧ p.1 ≠ L ∧ h₀.get? p.1 = none := fun p hp => N p (List.mem_append_left _ hp)
  have B : ∀ p ∈ [x0, x1, x2, x3, x4, x5, x6, x7, x8, r, d, e, f, i, j, k3, k2, k1, k5], h.get? p.1 = some p.2 ∧ p.1 ≠ L ∧ h₀.get? p.1 = none := fun p hp => N p (List.mem_append_right _ hp)
  exact fc (A _ (mi 0 rfl)) (fc (A _ (mi 1 rfl)) (fc (A _ (mi 2 rfl)) (fc (B _ (mi 15 rfl)) (fc (B _ (mi 16 rfl)) (fc (B _ (mi 17 rfl)) (fc (B _ (mi 13 rfl)) (fc (B _ (mi 14 rfl)) (fa (fc (B _ (mi 0 rfl)) (fc (B _ (mi 1 rfl)) (fc (B _ (mi 2 rfl)) (fc (B _ (mi 3 rfl)) (fc (B _ (mi 4 rfl)) (fc (B _ (mi 5 rfl)) (fc (B _ (mi 6 rfl)) (fc (B _ (mi 7 rfl)) (fc (B _ (mi 8 rfl)) (fc (B _ (mi 9 rfl)) (fc (B _ (mi 10 rfl)) (fc (B _ (mi 11 rfl)) (fc (B _ (mi 12 rfl)) (fc (B _ (mi 18 rfl)) (fn))))))))))))))) fun p hp => A p (.tail _ (.tail _ (.tail _ hp)))))))))))
theorem HdrOk.sub {lo : Nat → Nat} {vs : List Value} {tl tl' : Led} (h : HdrOk lo vs tl) (s : ∀ p ∈ tl, p ∈ tl') : HdrOk lo vs tl' := fun j v e => by
  obtain ⟨T, tx, ty, e1, e2⟩ := h j v e
  exact ⟨T, tx, ty, e1, s _ e2⟩
end Mine
namespace Mine
theorem law_hide {h₀ h : Heap} {L : Addr} {a b c x0 x1 x2 x3 x4 x5 x6 x7 x8 r d e f i j k3 k2 k1 k5 : Addr × Obj} {tl : Led} {lo : Nat → Nat} {vs : List Value} (N : News h₀ L h ((a :: b :: c :: tl) ++ [x0, x1, x2, x3, x4, x5, x6, x7, x8, r, d, e, f, i, j, k3, k2, k1, k5])) (H : HdrOk lo vs tl) :
    ∃ tlA, HideP ([x0, x1, x2, x3, x4, x5, x6, x7, x8, r, d, e, f, k5] ++ tl = tlA) ∧ HideP (HdrOk lo vs tlA) ∧ News h₀ L h (a :: b :: c :: k3 :: k2 :: k1 :: i :: j :: tlA) :=
  ⟨_, ⟨rfl⟩, ⟨HdrOk.sub H fun _ hp => List.mem_append_right _ hp⟩, law_order N⟩
end Mine
namespace Mine
theorem pick_all (l : List Value) : kms_pick l none none = l := by
  have e : kms_lo none l.length = 0 := rfl
  have e2 : kms_hi none l.length = l.length := rfl
  unfold kms_pick
  rw [e, e2, List.drop_zero, Nat.sub_zero, List.take_length]
theorem small_list {vs : List Value} {d : Nat} {q : Int} (h : vs.length = d) (hd : QD q d) : vs.toArray.size ≤ sizeLine := by
  have := (qd_facts hd).1
  rw [List.size_toArray, sizeLine_eq]
  omega
end Mine
namespace Mine
/-- the pairs made so far, in a ledger whose end is kept closed -/
noncomputable def CmJ (mk : Led → Led) (tlA : Led) (lo : Nat → Nat) (i : Nat) (ys : List Value) (nx : Led) : Prop := ∃ t3, nx = mk t3 ∧ HideP (∀ p ∈ tlA, p ∈ t3) ∧ HideP (HdrOk lo ys t3) ∧ ys.length = i
end Mine
namespace Mine
noncomputable def minE (i : Nat) (f : Int) : Int := min (i : Int) f
theorem ints3_at {a b c : Int} {ta tb tc : Tok} {i : Nat} {v : Value} (h : ([.int a ta, .int b tb, .int c tc] : List Value)[i]? = some v) : ∃ (n : Int) (t : Tok), [a, b, c][i]? = some n ∧ v = .int n t := by
  rcases i with _ | _ | _ | i
  · exact ⟨a, ta, rfl, (Option.some.inj h).symm⟩
  · exact ⟨b, tb, rfl, (Option.some.inj h).symm⟩
  · exact ⟨c, tc, rfl, (Option.some.inj h).symm⟩
  · cases h
end Mine
namespace Mine
theorem min_if (i : Nat) (x : Int) : minE i x = if x < i then x else (i : Int) := by
  unfold minE
  split <;> omega
theorem lo_sum {h0 h1 h2 h3 : Nat} {f0 f1 f2 : Int} (G : Geo h0 h1 h2 h3 f0 f1 f2) (k : Nat) : [(h0 : Int), h1, h2, h3].getD (Int.toNat 3) 0 + (([f0, f1, f2].map (minE k)).take 3).sum = (loAt h0 h1 h2 h3 k : Nat) := (lo_falls G k).symm
theorem lo_letters {n : Nat} (h : n ≤ 15) : 0 ≤ (n : Int) ∧ (n : Int) < 1048576 := by omega
end Mine
namespace Mine
theorem lo_sumV {h0 h1 h2 h3 : Nat} {f0 f1 f2 : Int} (G : Geo h0 h1 h2 h3 f0 f1 f2) (k : Nat) (ta tb tc : Tok) : [(h0 : Int), h1, h2, h3].getD (Int.toNat 3) 0 + (List.take [Value.int f0 ta, Value.int f1 tb, Value.int f2 tc].length ([f0, f1, f2].map (minE k))).sum = (loAt h0 h1 h2 h3 k : Nat) := lo_sum G k
end Mine
namespace Mine
theorem news_totail {h₀ h : Heap} {L : Addr} {x y a b c d e0 e1 e2 e3 e4 e5 e6 e7 e8 : Addr × Obj} {t : Led} (N : News h₀ L h (x :: y :: a :: b :: c :: d :: e0 :: e1 :: e2 :: e3 :: e4 :: e5 :: e6 :: e7 :: e8 :: t)) :
    News h₀ L h (a :: b :: c :: d :: e0 :: e1 :: e2 :: e3 :: e4 :: e5 :: e6 :: e7 :: e8 :: x :: t) := fun p hp => N p (by
  have key : p ∈ [a, b, c, d, e0, e1, e2, e3, e4, e5, e6, e7, e8] ++ x :: t := hp
  have goal : p ∈ x :: y :: ([a, b, c, d, e0, e1, e2, e3, e4, e5, e6, e7, e8] ++ t) := by
    rcases List.mem_append.mp key with h | h
    · exact .tail _ (.tail _ (List.mem_append_left _ h))
    rcases List.mem_cons.mp h with rfl | h
    · exact .head _
    · exact .tail _ (.tail _ (List.mem_append_right _ h))
  exact goal)
theorem ap_totail {I K : Addr} {x e0 e1 e2 e3 e4 e5 e6 e7 e8 : Addr × Obj} {t : Led} (h : ∀ p ∈ e0 :: e1 :: e2 :: e3 :: e4 :: e5 :: e6 :: e7 :: e8 :: t, @LT.lt Nat _ p.1 I ∨ @LT.lt Nat _ K p.1) (hx : @LT.lt Nat _ K x.1) :
    ∀ p ∈ e0 :: e1 :: e2 :: e3 :: e4 :: e5 :: e6 :: e7 :: e8 :: x :: t, @LT.lt Nat _ p.1 I ∨ @LT.lt Nat _ K p.1 := fun p hp => by
  have key : p ∈ [e0, e1, e2, e3, e4, e5, e6, e7, e8] ++ x :: t := hp
  have h' : ∀ p ∈ [e0, e1, e2, e3, e4, e5, e6, e7, e8] ++ t, @LT.lt Nat _ p.1 I ∨ @LT.lt Nat _ K p.1 := h
  rcases List.mem_append.mp key with q | q
  · exact h' p (List.mem_append_left _ q)
  rcases List.mem_cons.mp q with rfl | q
  · exact .inr hx
  · exact h' p (List.mem_append_right _ q)
noncomputable abbrev pairF (lo : Nat → Nat) (j : Nat) : Str × Str := (⟨(List.replicate j 65).toArray⟩, lett (digs (lo j)))
theorem pairs_of {h₀ h : Heap} {L : Addr} {lo : Nat → Nat} {vs : List Value} {tl news : Led} (H : HdrOk lo vs tl) (s : ∀ p ∈ tl, p ∈ news) (N : News h₀ L h news) : PairsAre (pairF lo) h vs := fun j v e => by
  obtain ⟨T, tx, ty, e1, e2⟩ := H j v e
  exact ⟨T, tx, ty, e1, (N _ (s _ e2)).1⟩
end Mine
namespace Mine
theorem strOk_small {l : List Nat} (h : ∀ c ∈ l, c < 0x110000) : PyData.strOk ⟨l.toArray⟩ = true := by
  unfold PyData.strOk
  simpa using h
theorem pair_ok {lo : Nat → Nat} (h : ∀ j, lo j ≤ 15) (j : Nat) : PyData.strOk (pairF lo j).1 = true ∧ PyData.strOk (pairF lo j).2 = true := by
  refine ⟨strOk_small fun c hc => by rw [(List.mem_replicate.mp hc).2]; decide, strOk_small fun c hc => ?_⟩
  obtain ⟨d, hd, rfl⟩ := List.mem_map.mp hc
  unfold digs at hd
  split at hd
  · cases hd
  · rw [List.mem_singleton.mp hd]
    have := h j
    omega
end Mine
namespace Mine
theorem done_pairs {h₀ h : Heap} {L : Addr} {x e0 e1 e2 e3 e4 e5 e6 e7 e8 : Addr × Obj} {t tlA : Led} {lo : Nat → Nat} {ys vT : List Value} (N : News h₀ L h (x :: e0 :: e1 :: e2 :: e3 :: e4 :: e5 :: e6 :: e7 :: e8 :: t)) (H1 : HdrOk lo ys t) (H2 : HdrOk lo vT tlA) (s : ∀ p ∈ tlA, p ∈ t) :
    PairsAre (pairF lo) h ys ∧ PairsAre (pairF lo) h vT := by
  have m : ∀ p ∈ t, p ∈ x :: e0 :: e1 :: e2 :: e3 :: e4 :: e5 :: e6 :: e7 :: e8 :: t := fun p hp => List.mem_append_right [x, e0, e1, e2, e3, e4, e5, e6, e7, e8] hp
  exact ⟨pairs_of H1 m N, pairs_of H2 (fun p hp => m p (s p hp)) N⟩
end Mine
namespace Mine
theorem put_back {m : Str → Option Value} {k0 k1 : Str} {v0 v1 : Option Value} (h0 : m k0 = v0) (h1 : m k1 = v1) : (fun y => if y = k0 then v0 else if y = k1 then v1 else m y) = m := by
  funext y
  split
  · subst_vars; rfl
  split
  · subst_vars; rfl
  · rfl
theorem news_back {h₀ h : Heap} {L : Addr} {x e0 e1 e2 e3 e4 e5 e6 e7 e8 : Addr × Obj} {t tlA : Led} (N : News h₀ L h (x :: e0 :: e1 :: e2 :: e3 :: e4 :: e5 :: e6 :: e7 :: e8 :: t)) (s : ∀ p ∈ tlA, p ∈ t) : News h₀ L h (e1 :: e2 :: e3 :: e4 :: e5 :: e6 :: e7 :: e8 :: tlA) := fun p hp => N p (by
  have key : p ∈ [e1, e2, e3, e4, e5, e6, e7, e8] ++ tlA := hp
  have goal : p ∈ x :: e0 :: ([e1, e2, e3, e4, e5, e6, e7, e8] ++ t) := by
    rcases List.mem_append.mp key with h | h
    · exact .tail _ (.tail _ (List.mem_append_left _ h))
    · exact .tail _ (.tail _ (List.mem_append_right _ (s p h)))
  exact goal)
end Mine
namespace Mine
/-- what stood still stands, but at one address, behind a contract that tells so of its own part -/
theorem stand {h₀ h h' : Heap} {L pb : Addr} {news sub : Led} (N : News h₀ L h news) (s : ∀ q ∈ sub, q ∈ news) (k : Kp h h' (sub.map (·.1))) (e4 : ∀ q ∈ sub, q.1 ≠ pb → h'.get? q.1 = some q.2) : ∀ q ∈ news, q.1 ≠ pb → h'.get? q.1 = some q.2 ∧ q.1 ≠ L ∧ h₀.get? q.1 = none := fun q hq hne => by
  have z := N q hq
  refine ⟨?_, z.2⟩
  by_cases hm : q.1 ∈ sub.map (·.1)
  · obtain ⟨x, hxm, ex⟩ := List.mem_map.mp hm
    have e5 := e4 x hxm (by rw [ex]; exact hne)
    have e6 := (N x (s x hxm)).1
    rw [ex] at e5 e6
    rw [e6] at z
    rw [e5, ← Option.some.inj z.1]
  · exact k _ _ z.1 hm
section
variable {w : World} {p : Program} {loose : List Str} {mean : ExcName → Option Value} {mg mb : Str → Option Value} {dp un : Nat} {gd : Option (List Code)} {cn : Str} {cs : Scope} {a : Addr} {ccd : Value} {cl : List (Str × Addr)} {outer : List Env} {A₀ : Around} {base h₀ : Heap} {L : Addr} {m : Str → Option Value} {s : Shared} {Q E : Value → Shared → Prop}
theorem use_grow {lx dx tp D rd c0 cc sg pb : Addr} {K : LK} {n : Int} {tn : Tok} {fdl fdr : FuncData} {co cco : Obj} {hsh : Int} {key : Tok} {vs : List Value} {ep epb ep2 : Nat} {hx hdx hl lrd : Addr} {hh : Int} {hkT : Tok} {vT : List Value} {tl : Led} {k1 k2 k3 k4 k5 er eu eh ef : Addr × Obj} {h0 h1 h2 h3 d : Nat} {r0 r1 r2 r3 q : Int} {a0 a1 a2 a3 tq td : Tok} {epr : Nat}
    (hqd : QD q d) (hvl : vT.length = d) (hv : HdrOk (loAt h0 h1 h2 h3) vT tl) (R0 : RowOk q r0 h0) (hlt : @LT.lt Nat _ hdx hx ∧ @LT.lt Nat _ hx hl) (hgt : GtL hl tl)
    (A1 : strmApart lx dx tp D rd c0 cc sg) (A2 : pbApart lx dx tp D rd c0 cc sg pb) (O : OffA (lexAs lx dx tp D rd c0 cc sg pb) [lrd, k4.1, er.1, eu.1, eh.1, ef.1, k3.1, k2.1, k1.1, k5.1])
    (H : ∀ q ∈ hdrLed hx hdx hl hh hkT vT ep2 tl, ∀ b ∈ lexAs lx dx tp D rd c0 cc sg pb ++ [lrd, k4.1, er.1, eu.1, eh.1, ef.1, k3.1, k2.1, k1.1, k5.1], b ≠ q.1)
    (B : Below A₀ base outer h₀) (F : Fr h₀ L s.heap m) (X : (hd.heap_1 w.params).In h₀) (T : Top p loose mean mg mb h₀) (hk : cs.kind = .function)
    (N : News h₀ L s.heap ((hl, W.listOf vT.toArray ep2) :: (hx, instObj 268 hdx) :: (hdx, hdrDict hh hkT hl) :: k3 :: k2 :: k1 :: eh :: ef :: (lexAll lx dx tp D rd c0 cc sg pb K n tn fdl fdr co cco hsh key vs ep epb ++ (lrd, W.listOf [Value.int r0 a0, .int r1 a1, .int r2 a2, .int r3 a3].toArray epr) :: k4 :: er :: eu :: k5 :: tl)))
    (hd : dp + 4 < recursionLimit) (hu : un + 20 * 4 < cLine)
    (ret : ∀ lt ws ept epb' h' tk', StrsAre ws ((growW r0 r1 r2 r3 q (loAt h0 h1 h2 h3) d).map wordS) → OffA (lexAs lx dx tp D rd c0 cc sg pb) [lt, k4.1, er.1, eu.1, eh.1, ef.1, k3.1, k2.1, k1.1, k5.1] → Fr h₀ L h' m →
      News h₀ L h' (lexAll lx dx tp D rd c0 cc sg pb K n tn fdl fdr co cco hsh key vs ep epb' ++ [(lt, W.listOf ws.toArray ept), k4, er, eu, eh, ef, k3, k2, k1, k5]) → Q (.ref lt) { s with heap := h', toks := tk' }) :
    wpAny (model Challenge.rw_wj0057_01.row.prog w) (ktrTop dp un gd cn cs L a ccd cl outer) (call (.ref 339) [.ref lx, .ref hx, .ref lrd, .int q tq, .int d td] []) Q E s := by
  have hq5 := (qp5 hqd.qp).1
  generalize hA : lexAs lx dx tp D rd c0 cc sg pb = lA at O
  have Hn : ∀ q ∈ hdrLed hx hdx hl hh hkT vT ep2 tl, q.1 ≠ lx ∧ q.1 ≠ dx ∧ q.1 ≠ pb ∧ q.1 ≠ lrd := fun q hq => ⟨Ne.symm (H q hq lx (mi 1 rfl)), Ne.symm (H q hq dx (mi 2 rfl)), Ne.symm (H q hq pb (mi 0 rfl)), Ne.symm (H q hq lrd (mi 9 rfl))⟩
  clear H
  have Ol : ∀ a ∈ lA, lrd ≠ a := fun a ha => O a ha lrd (.head _)
  obtain ⟨⟨p1, p2, p3⟩, p4, p5, p6, p7, p8⟩ := A2
  have hl0 := Hn (hl, W.listOf vT.toArray ep2) (.head _)
  have hx0 := Hn (hx, instObj 268 hdx) (.tail _ (.head _))
  have hd0 := Hn (hdx, hdrDict hh hkT hl) (.tail _ (.tail _ (.head _)))
  have mlx : lx ∈ lA := hA ▸ mi 1 rfl
  have mdx : dx ∈ lA := hA ▸ mi 2 rfl
  have mpb : pb ∈ lA := hA ▸ mi 0 rfl
  have sub : ∀ q ∈ lexSub lx dx pb tp K n tn [] epb ++ hdr3 hx hdx hl hh hkT vT ep2, q ∈ (hl, W.listOf vT.toArray ep2) :: (hx, instObj 268 hdx) :: (hdx, hdrDict hh hkT hl) :: k3 :: k2 :: k1 :: eh :: ef :: (lexAll lx dx tp D rd c0 cc sg pb K n tn fdl fdr co cco hsh key vs ep epb ++ (lrd, W.listOf [Value.int r0 a0, .int r1 a1, .int r2 a2, .int r3 a3].toArray epr) :: k4 :: er :: eu :: k5 :: tl) :=
    fc (mi 9 rfl) (fc (mi 10 rfl) (fc (mi 8 rfl) (fc (mi 0 rfl) (fc (mi 1 rfl) (fc (mi 2 rfl) fn)))))
  refine cl_gen (cl_grow lx dx pb tp lrd hx hdx hl K n tn epb hh hkT vT ep2 tl (loAt h0 h1 h2 h3) r0 r1 r2 r3 q d a0 a1 a2 a3 tq td ⟨(qd_facts hqd).1, hvl⟩ hqd.qp hv (fun N _ => lo_small hq5 R0 N) (qd_facts hqd).2) B F X T hk N sub ?pre hd hu ?ret
  case pre =>
    refine ⟨⟨hlt, ⟨Ne.symm p1, p3, A1.1.1⟩, Ne.symm hd0.2.2.1, Ne.symm hx0.2.2.1, Ne.symm hl0.2.2.1⟩, fun q hq => ?_, ⟨_, (N (lrd, W.listOf [Value.int r0 a0, .int r1 a1, .int r2 a2, .int r3 a3].toArray epr) (mi 17 rfl)).1, rfl, _, rfl⟩, ?_⟩
    · have z := Hn q (.tail _ (.tail _ (.tail _ hq)))
      have g := hgt q hq
      refine ⟨(N q (.tail _ (.tail _ (.tail _ (.tail _ (.tail _ (.tail _ (.tail _ (.tail _ (List.mem_append_right _ (.tail _ (.tail _ (.tail _ (.tail _ (.tail _ hq))))))))))))))).1, g, ?_⟩
      simp only [six, List.mem_cons, List.not_mem_nil, or_false, not_or]
      exact ⟨z.1, z.2.1, z.2.2.1, Nat.ne_of_gt g, Nat.ne_of_gt (Nat.lt_trans hlt.2 g), Nat.ne_of_gt (Nat.lt_trans hlt.1 (Nat.lt_trans hlt.2 g))⟩
    · simp only [six, List.mem_cons, List.not_mem_nil, or_false, not_or]
      exact ⟨Ol lx mlx, Ol dx mdx, Ol pb mpb, Ne.symm hl0.2.2.2, Ne.symm hx0.2.2.2, Ne.symm hd0.2.2.2⟩
  case ret =>
    clear hl0 hx0 hd0 Hn Ol mlx mdx hlt hgt R0 hv
    intro v h' tk' F' k hp
    obtain ⟨⟨lt, ws, ept, rfl, hS, e1, e2⟩, epb', e3, e4⟩ := hp
    have na := new_apart F N e2
    have npb := (N (pb, W.listOf ([] : List Value).toArray epb) (mi 8 rfl)).2
    -- an old entry but the push-back list stands
    have old : ∀ q ∈ (hl, W.listOf vT.toArray ep2) :: (hx, instObj 268 hdx) :: (hdx, hdrDict hh hkT hl) :: k3 :: k2 :: k1 :: eh :: ef :: (lexAll lx dx tp D rd c0 cc sg pb K n tn fdl fdr co cco hsh key vs ep epb ++ (lrd, W.listOf [Value.int r0 a0, .int r1 a1, .int r2 a2, .int r3 a3].toArray epr) :: k4 :: er :: eu :: k5 :: tl), q.1 ≠ pb → h'.get? q.1 = some q.2 ∧ q.1 ≠ L ∧ h₀.get? q.1 = none := stand N sub k e4
    have far : ∀ b ∈ [k4.1, er.1, eu.1, eh.1, ef.1, k3.1, k2.1, k1.1, k5.1], b ≠ pb := fun b hb => O pb mpb b (.tail _ hb)
    have off : ∀ b ∈ lA, lt ≠ b := by
      subst hA
      exact fc (Ne.symm (na.2 _ (mi 8 rfl))) (fc (Ne.symm (na.2 _ (mi 9 rfl))) (fc (Ne.symm (na.2 _ (mi 10 rfl))) (fc (Ne.symm (na.2 _ (mi 11 rfl))) (fc (Ne.symm (na.2 _ (mi 12 rfl))) (fc (Ne.symm (na.2 _ (mi 13 rfl))) (fc (Ne.symm (na.2 _ (mi 14 rfl))) (fc (Ne.symm (na.2 _ (mi 15 rfl))) (fc (Ne.symm (na.2 _ (mi 16 rfl))) fn))))))))
    refine ret lt ws ept epb' h' tk' hS (hA ▸ OffA.cons (O.sub fun x hx => .tail _ hx) off) F' ?n
    clear ret off O e4 k sub hS F' e2 F N
    exact fc ⟨e3, npb⟩ (fc (old _ (mi 9 rfl) p3) (fc (old _ (mi 10 rfl) (Ne.symm p1)) (fc (old _ (mi 11 rfl) p4) (fc (old _ (mi 12 rfl) p5) (fc (old _ (mi 13 rfl) p6) (fc (old _ (mi 14 rfl) p7) (fc (old _ (mi 15 rfl) p8) (fc (old _ (mi 16 rfl) (Ne.symm p2)) (fc ⟨e1, na.1⟩
      (fc (old _ (mi 18 rfl) (far _ (mi 0 rfl))) (fc (old _ (mi 19 rfl) (far _ (mi 1 rfl))) (fc (old _ (mi 20 rfl) (far _ (mi 2 rfl))) (fc (old _ (mi 6 rfl) (far _ (mi 3 rfl))) (fc (old _ (mi 7 rfl) (far _ (mi 4 rfl))) (fc (old _ (mi 3 rfl) (far _ (mi 5 rfl))) (fc (old _ (mi 4 rfl) (far _ (mi 6 rfl))) (fc (old _ (mi 5 rfl) (far _ (mi 7 rfl))) (fc (old _ (mi 21 rfl) (far _ (mi 8 rfl))) fn))))))))))))))))))
end
end Mine
-- LawE
namespace Mine
theorem read_end {s : List Nat} (h : After s []) : startG s = some ([], []) := startG_after h
theorem txt_nil : txtN [] = Str.ofString "" := by decide
theorem grow_strOk {q r0 r1 r2 r3 : Int} {lo : Nat → Nat} (hq : QP q) (t : Nat) : ∀ x ∈ (growW r0 r1 r2 r3 q lo t).map wordS, PyData.strOk x = true := fun x hx => by
  obtain ⟨ds, hd, rfl⟩ := List.mem_map.mp hx
  have h5 := (qp5 hq).1
  have ok := word_figs (growW_in (by omega) t ds hd) (by omega)
  unfold wordS lett
  refine strOk_small fun c hc => ?_
  obtain ⟨d, hd', rfl⟩ := List.mem_map.mp hc
  have := ok d hd'
  omega
theorem off_map {l news : Led} (h : ∀ q ∈ l, ∀ p ∈ news, p.1 ≠ q.1) : ∀ q ∈ l, ∀ b ∈ news.map (·.1), b ≠ q.1 := fun q hq b hb => by
  obtain ⟨p, hp, rfl⟩ := List.mem_map.mp hb
  exact h q hq p hp
theorem hs_ok {q r0 r1 r2 r3 : Int} {h0 h1 h2 h3 : Nat} (hq : QP q) (A : RowOk q r0 h0) (B : RowOk q r1 h1) (C : RowOk q r2 h2) (D : RowOk q r3 h3) : HsOk [(h0 : Int), h1, h2, h3] := fun k hk => by
  have h5 := (qp5 hq).1
  have a := (height_ok h5 A.tall).1
  have b := (height_ok h5 B.tall).1
  have c := (height_ok h5 C.tall).1
  have d := (height_ok h5 D.tall).1
  rw [A.ht] at a
  rw [B.ht] at b
  rw [C.ht] at c
  rw [D.ht] at d
  rcases k with _ | _ | _ | _ | k
  · show 0 ≤ (h0 : Int) ∧ (h0 : Int) ≤ 8; omega
  · show 0 ≤ (h1 : Int) ∧ (h1 : Int) ≤ 8; omega
  · show 0 ≤ (h2 : Int) ∧ (h2 : Int) ≤ 8; omega
  · show 0 ≤ (h3 : Int) ∧ (h3 : Int) ≤ 8; omega
  · omega
theorem grow_told {q u0 u1 u2 u3 r0 r1 r2 r3 : Int} {h0 h1 h2 h3 : Nat} {f0 f1 f2 : Int} {vn : List Value} {t : Nat} (hq : QP q) (hU : UnitsOk [u0, u1, u2, u3] q) (G : Geo h0 h1 h2 h3 f0 f1 f2) (e : u0 * q ^ h0 = r0 ∧ u1 * q ^ h1 = r1 ∧ u2 * q ^ h2 = r2 ∧ u3 * q ^ h3 = r3)
    (h : StrsAre vn (dueL (pvS r0 r1 r2 r3) q [u0, u1, u2, u3] [(h0 : Int), h1, h2, h3] [f0, f1, f2] t 3)) : StrsAre vn ((growW r0 r1 r2 r3 q (loAt h0 h1 h2 h3) t).map wordS) := by
  obtain ⟨rfl, rfl, rfl, rfl⟩ := e
  rw [grow_due hq hU G]
  exact h
theorem news_skip1 {h₀ h : Heap} {L : Addr} {a : Addr × Obj} {r : Led} (N : News h₀ L h (a :: r)) : News h₀ L h r := fun p hp => N p (.tail _ hp)
theorem nls_nil : nls [] = 0 := rfl
theorem law_good {cl : Str → Option Addr} {mean : ExcName → Option Value} {args : List WData} {s₁ s' : Shared} {L : Addr} {m : Str → Option Value} {b : Bool} (hb : b = true) (F : Fr s₁.heap L s'.heap m) (hg : s'.gens = #[]) (hos : s'.os = s₁.os) :
    GoodW Challenge.rw_wj0057_01.row.claim cl mean args s₁ (.ok (.ret (.bool b))) s' := by
  subst hb
  refine goodW_bool F hg (raisesW_false ?_) ?_ hos
  · wrow_none_raised
  · kc_post
theorem law_endS {cl : Str → Option Addr} {mean : ExcName → Option Value} {args : List WData} {z : Shared} {g h : Heap} {tk : Nat} {L : Addr} {m : Str → Option Value} {b : Bool} {x0 x1 x2 x3 x4 x5 x6 x7 x8 x9 xa xb xc xd xe xf xg xh : Addr × Obj} {ps : Array Value} (hb : b = true) (F : Fr g L h m) (N : News g L h [x0, x1, x2, x3, x4, x5, x6, x7, x8, x9, xa, xb, xc, xd, xe, xf, xg, xh, (296, tabObj ps)]) (hg : z.gens = #[]) :
    GoodW Challenge.rw_wj0057_01.row.claim cl mean args { heap := g, gens := z.gens, drawn := z.drawn, toks := z.toks, os := z.os } (.ok (.ret (.bool b))) { heap := h, gens := z.gens, drawn := z.drawn, toks := tk, os := z.os } ∧ GrownAll [(300, 296)] h :=
  And.intro (law_good hb F hg rfl) (And.intro (GrownAt.of N (List.mem_of_getElem? (i := 18) rfl)) True.intro)
theorem unit_snoc {q x : Int} {l : List Int} {ys : List Value} {i : Nat} {t : Tok} (hx : l[i]? = some x) (h : IntsAre ys ((l.map (unitE q)).take i)) : IntsAre (ys ++ [.int (1 + Int.fmod x (q - 1) + q * (Int.fmod (Int.fdiv x (q - 1)) 4 - 2)) t]) ((l.map (unitE q)).take (i + 1)) := ints_map_snoc hx h rfl
end Mine
-- Law
namespace Mine
--words
--cheap
theorem law_try : PySem.Challenge.rw_wj0057_01.Holds := Mine.hd (by
  k_go0
  (all_goals try k_fold)
  k_with_none
  k_with "kne" => (refine neN ?_; (try dsimp only); first | exact Nat.ne_of_gt (by with_reducible assumption) | exact Nat.ne_of_lt (by with_reducible assumption) | with_reducible assumption | exact Ne.symm (by with_reducible assumption) | exact Nat.succ_ne_self _ | exact Ne.symm (Nat.succ_ne_self _) | (apply Nat.ne_of_gt; apply And.left; k_extra "krn"; done) | (apply Nat.ne_of_lt; apply And.left; k_extra "krn"; done) | (apply Nat.ne_of_gt; k_extra "krn"; done) | (apply Nat.ne_of_lt; k_extra "krn"; done) | k_extra "kd4" | (apply Ne.symm; k_extra "kd4") | omega)
  k_with "kd1" => first | with_reducible assumption | (apply And.left; with_reducible assumption) | (apply And.right; with_reducible assumption)
  k_with "kd2" => first | with_reducible assumption | (apply And.left; k_extra "kd1") | (apply And.right; k_extra "kd1")
  k_with "kd3" => first | with_reducible assumption | (apply And.left; k_extra "kd2") | (apply And.right; k_extra "kd2")
  k_with "kd4" => first | with_reducible assumption | (apply And.left; k_extra "kd3") | (apply And.right; k_extra "kd3")
  k_with "krn" => ((iterate 19 (first | done | with_reducible assumption | apply And.right)); done)
  k_with "omg" => first | exact Mine.room2 (by with_reducible assumption) rfl | exact Mine.units2 (by with_reducible assumption) cLine_is rfl | ((repeat (rename @Ne Nat _ _ => z9w; clear z9w)); (repeat (rename @Ne Nat _ _ ∧ _ => z9w; clear z9w)); (repeat (rename (@Ne Nat _ _ ∧ _) ∧ _ => z9w; clear z9w)); omega +splitDisjunctions)
  k_with "callWith ref" => (k_here; k_dflt (first | (refine' callF0 ?k1 ?k3 ?k2 ?_; (case k1 => k_asm); (case k3 => k_asm); (case k2 => k_is); k_whole) | (refine' callWith_K ?k1 ?k2 ?_; (case k1 => k_asm); (case k2 => k_is); k_whole)))
  k_with "getMethod ref" => (k_here; k_dflt (refine' method_inst ?k1 ?k2 ?k3 ?k4 ?k5 ?k6 ?k7 ?_; (case k1 => k_asm); (case k2 => k_asm); (case k3 => k_inst); (case k4 => k_is); (case k5 => k_is); (case k6 => k_is); (case k7 => k_get); k_whole))
  k_with "binaryOp FloorDiv int int" => ((with_reducible show wpAny _ _ (binaryOp Operator.FloorDiv (Value.int _ _) (Value.int (_ - _) _)) _ _ _); refine Hold.of ?_; walk_say "BREAK")
  k_with "binaryOp Mult int int" => ((with_reducible show wpAny _ _ (binaryOp Operator.Mult (Value.int _ _) (Value.int _ _)) _ _ _); refine Hold.of ?_; walk_say "BREAK")
  k_with "binaryOp Pow int int" => ((with_reducible show wpAny _ _ (binaryOp Operator.Pow (Value.int _ _) (Value.int _ _)) _ _ _); refine Hold.of ?_; walk_say "BREAK")
  k_with "subscriptTail Attribute Name Slice ref ref" => ((with_reducible show wpAny _ _ (subscriptTail _ (PySem.Expr.Slice none none none _) (Value.ref _) (Value.ref _)) _ _ _); refine Hold.of ?_; walk_say "BREAK")
  k_with "subscriptTail Attribute" => ((with_reducible show wpAny _ _ (subscriptTail _ (PySem.Expr.Slice none none none _) (Value.ref _) (Value.ref _)) _ _ _); refine Hold.of ?_; walk_say "BREAK")
  k_with "subscriptTail" => ((with_reducible show wpAny _ _ (subscriptTail _ (PySem.Expr.Slice none none none _) (Value.ref _) (Value.ref _)) _ _ _); refine Hold.of ?_; walk_say "BREAK")
  k_with "binaryOp Mult str int" => (k_here; (with_reducible show wpAny _ _ (binaryOp _ (Value.str (Str.ofString "A") _) (Value.int _ _)) _ _ _); k_dflt (refine' mul_A ?hk ?hn ?_; (case hk => first | exact Int.zero_add _ | exact rfl); (case hn => omega)); intro _ _)
  k_with "compareOp Eq ref ref" => ((with_reducible show wpAny _ _ (compareOp CmpOp.Eq (Value.ref _) (Value.ref _)) _ _ _); refine Hold.of ?_; walk_say "BREAK")
  k_with "exec If" => ((with_reducible show wpAny _ _ (exec (Stmt.If _ _ _ _) _) _ _ _); refine Hold.of ?_; walk_say "BREAK")
  k_with "call type:zip" => ((with_reducible show wpAny _ _ (PySem.call (Value.type "zip") _ _) _ _ _); refine Hold.of ?_; walk_say "BREAK")
  k_with "pyIter ref" => ((with_reducible show wpAny _ _ (pyIter (Value.ref _)) _ _ _); refine Hold.of ?_; walk_say "BREAK")
  k_with "eval ListComp" => ((with_reducible show wpAny _ _ (eval (Expr.ListComp _ _ _ _) _) _ _ _); refine Hold.of ?_; walk_say "BREAK")
  k_with "exec Assign" => ((with_reducible show wpAny _ _ (exec (Stmt.Assign [Expr.Tuple _ _ _] _ _) _) _ _ _); (fail_if_success (have go9w : GoOn := by with_reducible assumption)); refine Hold.of ?_; walk_say "BREAK")
  k_with "call ref" => ((first | (with_reducible show wpAny _ _ (PySem.call (Value.ref 277) _ _) _ _ _) | (with_reducible show wpAny _ _ (PySem.call (Value.ref 284) _ _) _ _ _) | (with_reducible show wpAny _ _ (PySem.call (Value.ref 289) _ _) _ _ _) | (with_reducible show wpAny _ _ (PySem.call (Value.ref 294) _ _) _ _ _) | (with_reducible show wpAny _ _ (PySem.call (Value.ref 301) _ _) _ _ _) | (with_reducible show wpAny _ _ (PySem.call (Value.ref 315) _ _) _ _ _) | (with_reducible show wpAny _ _ (PySem.call (Value.ref 108) _ _) _ _ _) | (with_reducible show wpAny _ _ (PySem.call (Value.ref 327) _ _) _ _ _) | (with_reducible show wpAny _ _ (PySem.call (Value.ref 339) _ _) _ _ _) | (with_reducible show wpAny _ _ (PySem.call (Value.ref 349) _ _) _ _ _)); refine Hold.of ?_; walk_say "BREAK")
  k_with "exec Assign cons ListComp" => ((with_reducible show wpAny _ _ (exec (Stmt.Assign _ (Expr.ListComp _ _ _ _) _) _) _ _ _); refine Hold.of ?_; walk_say "BREAK")
  w_top off
  (rename IntsAre _ _ => hI)
  (rename ¬ _ < _ => h63)
  (rename Heap.IsList _ _ _ => hlist)
  (rename CodeHd _ _ _ => hcode)
  (rename @LT.lt Nat _ 296 _ => l296)
  (rename Fr _ _ _ _ => F5)
  (rename News _ _ _ _ => N5)
  (rename Shared => z)
  generalize ghostOf _ _ = g at *
  generalize hLs : Array.size _ = L at *
  obtain ⟨m1, w1, F5⟩ : ∃ m1 : Str → Option Value, m1 (Str.ofString "script") = some (.ref _) ∧ Fr _ _ _ m1 := ⟨_, rfl, F5⟩
  (rename Fr _ _ _ (bindL _ _ _) => z9; clear z9)
  obtain ⟨o1, o2, o3, o4, d1, d2, d3, d4, N6⟩ : ∃ o1 o2 o3 o4 : Obj, (∃ v, o1.data = .cell v) ∧ (∃ v, o2.data = .cell v) ∧ (∃ v, o3.data = .cell v) ∧ (∃ v, o4.data = .cell v) ∧ News g L _ [(L + 1 + 1 + 1 + 1, o4), (L + 1 + 1 + 1, o3), (L + 1 + 1, o2), (L + 1, o1), (296, tabObj #[])] := ⟨_, _, _, _, ⟨_, by assumption⟩, ⟨_, by assumption⟩, ⟨_, by assumption⟩, ⟨_, by assumption⟩, N5⟩
  clear N5
  have N5 := N6
  clear N6
  obtain ⟨e1, d1⟩ := d1
  obtain ⟨e2, d2⟩ := d2
  obtain ⟨e3, d3⟩ := d3
  obtain ⟨e4, d4⟩ := d4
  refine cut fun Rt fin => ?_
  (repeat (rename (_ : Prop) => z9; revert z9))
  (repeat (rename _ => z9; revert z9))
  refine eps23 (ne23 ne_world ne_shared ne_shared ne_map ne_map ne_nat ne_obj ne_value ne_value ne_value (⟨[]⟩) (⟨[]⟩) (⟨[]⟩) ne_nat ne_vals (⟨[]⟩) ne_heap ne_nat ne_obj ne_obj ne_obj ne_obj ne_heap) ((?_ : ∀ a0 a1 a2 a3 a4 a5 a6 a7 a8 a9 a10 a11 a12 a13 a14 a15 a16 a17 a18 a19 a20 a21 a22, At23 _ a0 a1 a2 a3 a4 a5 a6 a7 a8 a9 a10 a11 a12 a13 a14 a15 a16 a17 a18 a19 a20 a21 a22) _ _ _ _ _ _ _ _ _ _ _ _ _ _ _ _ _ _ _ _ _ _ _)
  intros w0 s0 z mg mb fa ob pm cdv doc wI la1 la2 lw lvs la3 h1 tk1 b1 b2 b3 b4 g
  refine At23.mk ?_
  refine eps8 (ne8 ne_nat ne_map ne_obj ne_obj ne_obj ne_obj (⟨none⟩) (⟨none⟩)) ((?_ : ∀ a0 a1 a2 a3 a4 a5 a6 a7, At8 _ a0 a1 a2 a3 a4 a5 a6 a7) _ _ _ _ _ _ _ _)
  intros L m1 o1 o2 o3 o4 e1 e2
  refine At8.mk ?_
  refine eps3 (ne3 (⟨none⟩) (⟨none⟩) ne_post) ((?_ : ∀ a0 a1 a2, At3 _ a0 a1 a2) _ _ _)
  intros e3 e4 Rt
  refine At3.mk ?_
  set_option tactic.hygienic false in intros
  (rename IntsAre _ _ => hI)
  (rename Heap.IsList _ _ _ => hlist)
  (rename CodeHd _ _ _ => hcode)
  (rename @LT.lt Nat _ 296 _ => l296)
  (rename Fr _ _ _ _ => F5)
  (rename News _ _ _ _ => N5)
  (rename Obj.data o1 = _ => d1)
  (rename Obj.data o2 = _ => d2)
  (rename Obj.data o3 = _ => d3)
  (rename Obj.data o4 = _ => d4)
  (rename ∀ _ _, _ → Rt _ _ => fin)
  (rename m1 _ = _ => w1)
  (rw [map_put w1] at F5)
  clear w1
  k_steps
  refine Hold.on ?_
  k_dflt (refine' cl_pure (cl_cells _ _ _ hI (by omega)) ?k1 ?k2 ?k3 ?k4 ?k5 ?k6 ?kp ?kd ?ku ?_; (case k1 => k_asm); (case k2 => k_asm); (case k3 => k_asm); (case k4 => k_asm); (case k5 => first | exact rfl | assumption); (case k6 => k_asm); (case kd => ktr_room); (case ku => ktr_units))
  case kp => exact hlist.at fun o e => Fr.keep F5 _ o e
  intro v9 h9 tk9 F9 N9 hp9
  obtain ⟨ks, hk5, hkb, lc, vc, ec, rfl, ic, gc, nc⟩ := hp9
  obtain ⟨cc0, cc1, cc2, cc3, cc4, rfl⟩ := five_list hk5
  obtain ⟨tc0, tc1, tc2, tc3, tc4, rfl⟩ := ints_5 ic
  obtain ⟨⟨a1, a2⟩, a3⟩ := new_apart F5 N5 nc
  have N8 := news_more N9 gc a1 a2
  have qc1 : @Ne Nat (L + 1) lc := a3 (L + 1, _) (List.mem_of_getElem? (i := 3) rfl)
  have qc2 : @Ne Nat (L + 1 + 1) lc := a3 (L + 1 + 1, _) (List.mem_of_getElem? (i := 2) rfl)
  have qc3 : @Ne Nat (L + 1 + 1 + 1) lc := a3 (L + 1 + 1 + 1, _) (List.mem_of_getElem? (i := 1) rfl)
  clear N9 N5 F5 gc nc a1 a2 a3 ic hk5 hI hlist
  (try dsimp only)
  (try k_fold)
  k_steps
  refine Hold.on ?_
  (rename Fr g L _ _ => F5)
  (rename News g L _ _ => N5)
  refine exec_cut (fun s' => ∃ h tk m c1 t1 t2 q d, s' = { z with heap := h, toks := tk } ∧ QD q d ∧ c1.data = .cell (some (.int q t1)) ∧ m (Str.ofString "cells") = some (.ref lc) ∧ m (Str.ofString "depth") = some (.int (d : Nat) t2) ∧ Fr g L h m ∧
      News g L h [(lc, W.listOf #[Value.int cc0 tc0, .int cc1 tc1, .int cc2 tc2, .int cc3 tc3, .int cc4 tc4] ec), (L + 1 + 1 + 1 + 1, o4), (L + 1 + 1 + 1, o3), (L + 1 + 1, o2), (L + 1, c1), (296, tabObj #[])]) ?seg2 ?go2
  case seg2 =>
    intro R9 fin9
    have go9 : GoOn := ⟨⟨⟩⟩
    k_steps
    all_goals (rename Fr g L _ _ => F7)
    all_goals (rename News g L _ _ => N7)
    all_goals (rename Obj.data _ = Data.cell (some _) => dN)
    all_goals first
      | exact fin9 _ ⟨_, _, _, _, _, _, 2, 6, rfl, .inl ⟨rfl, rfl⟩, dN, rfl, rfl, F7, fun p hp => N7 p (.tail _ (.tail _ (.tail _ (.tail _ hp))))⟩
      | exact fin9 _ ⟨_, _, _, _, _, _, 3, 4, rfl, .inr (.inl ⟨rfl, rfl⟩), dN, rfl, rfl, F7, fun p hp => N7 p (.tail _ (.tail _ (.tail _ (.tail _ hp))))⟩
      | exact fin9 _ ⟨_, _, _, _, _, _, 5, 3, rfl, .inr (.inr ⟨rfl, rfl⟩), dN, rfl, rfl, F7, fun p hp => N7 p (.tail _ (.tail _ (.tail _ (.tail _ hp))))⟩
  case go2 =>
    (repeat (rename News _ _ _ _ => z9; clear z9)); (repeat (rename Fr _ _ _ _ => z9; clear z9)); (repeat (rename IsRange _ _ _ _ _ _ _ _ => z9; clear z9)); (repeat (rename IntsAre _ _ => z9; clear z9))
    clear d1
    rintro s' ⟨h, tk, m, c1, tq, td, q, d, rfl, hqd, d1, w1, w2, F5, N5⟩
    clear o1
    revert N5
    revert F5
    revert w2
    revert w1
    revert d1
    revert hqd
    revert qc3
    revert qc2
    revert qc1
    revert hkb
    revert lc ec cc0 cc1 cc2 cc3 cc4 tc0 tc1 tc2 tc3 tc4 h tk m c1 tq td q d
    refine eps16 (ne16 ne_nat ne_nat ne_int ne_int ne_int ne_int ne_int ne_nat ne_nat ne_nat ne_nat ne_nat ne_heap ne_nat ne_map ne_obj) ((?_ : ∀ a0 a1 a2 a3 a4 a5 a6 a7 a8 a9 a10 a11 a12 a13 a14 a15, At16 _ a0 a1 a2 a3 a4 a5 a6 a7 a8 a9 a10 a11 a12 a13 a14 a15) _ _ _ _ _ _ _ _ _ _ _ _ _ _ _ _)
    intros lc ec cc0 cc1 cc2 cc3 cc4 tc0 tc1 tc2 tc3 tc4 h tk m c1
    refine At16.mk ?_
    refine eps4 (ne4 ne_nat ne_nat ne_int ne_nat) ((?_ : ∀ a0 a1 a2 a3, At4 _ a0 a1 a2 a3) _ _ _ _)
    intros tq td q d
    refine At4.mk ?_
    intros hkb qc1 qc2 qc3 hqd d1 w1 w2 F5 N5
    (rw [map_put w1] at F5); (rw [map_put w2] at F5)
    clear w1 w2
    (try dsimp only)
    (try k_fold)
    k_steps
    refine Hold.on ?_
    k_dflt (refine' cl_pure (cl_falls (Int.fdiv cc0 3) _) ?k1 ?k2 ?k3 ?k4 ?k5 ?k6 ?kp ?kd ?ku ?_; (case k1 => k_asm); (case k2 => k_asm); (case k3 => k_asm); (case k4 => k_asm); (case k5 => first | exact rfl | assumption); (case k6 => k_asm); (case kd => ktr_room); (case ku => ktr_units))
    case kp => trivial
    intro v9 h9 tk9 F9 N9 hp9
    obtain ⟨lf, vf, ef, rfl, ifs, gf, nf⟩ := hp9
    obtain ⟨⟨a1, a2⟩, a3⟩ := new_apart F5 N5 nf
    have N8 := news_more N9 gf a1 a2
    have qf2 : @Ne Nat (L + 1 + 1) lf := a3 (L + 1 + 1, _) (List.mem_of_getElem? (i := 3) rfl)
    have qf3 : @Ne Nat (L + 1 + 1 + 1) lf := a3 (L + 1 + 1 + 1, _) (List.mem_of_getElem? (i := 2) rfl)
    have qf4 : @Ne Nat (L + 1 + 1 + 1 + 1) lf := a3 (L + 1 + 1 + 1 + 1, _) (List.mem_of_getElem? (i := 1) rfl)
    clear N9 N5 F5 nf a1 a2 a3
    have hfo := falls_ok (Int.fdiv cc0 3)
    generalize -(Int.fmod (Int.fdiv cc0 3) 2) + 1 + Int.fmod (Int.fdiv (Int.fdiv cc0 3) 2) 2 + 1 + Int.fmod (Int.fdiv (Int.fdiv cc0 3) 4) 2 = f0 at hfo ifs
    generalize -(Int.fmod (Int.fdiv cc0 3) 2) + 1 + Int.fmod (Int.fdiv (Int.fdiv cc0 3) 2) 2 = f1 at hfo ifs
    generalize -(Int.fmod (Int.fdiv cc0 3) 2) = f2 at hfo ifs
    obtain ⟨tf0, tf1, tf2, rfl⟩ := ints_3 ifs
    clear ifs gf
    (try dsimp only)
    (try k_fold)
    k_steps
    refine Hold.on ?_
    (rename Fr g L _ _ => F7)
    (rename News g L _ _ => N7)
    obtain ⟨lh, c2, c3, th0, th1, th2, th3, d2, d3, lt4, m, w1, w2, F5, N5⟩ : ∃ (lh : Addr) (c2 c3 : Obj) (th0 th1 th2 th3 : Tok), c2.data = .cell (some (.ref lf)) ∧ c3.data = .cell (some (.ref lh)) ∧ @LT.lt Nat _ (L + 1 + 1 + 1 + 1) lh ∧ ∃ m : Str → Option Value, m (Str.ofString "cells") = some (.ref lc) ∧ m (Str.ofString "depth") = some (.int (d : Nat) td) ∧ Fr g L _ m ∧
        News g L _ [(lh, W.listOf #[Value.int (Int.fmod (Int.fdiv cc0 24) 2 + f1 + f0) th0, .int (Int.fmod (Int.fdiv cc0 24) 2 + f1) th1, .int (Int.fmod (Int.fdiv cc0 24) 2) th2, .int (Int.fmod (Int.fdiv cc0 24) 2 - f2) th3] 0), (lf, W.listOf #[Value.int f0 tf0, .int f1 tf1, .int f2 tf2] ef),
          (lc, W.listOf #[Value.int cc0 tc0, .int cc1 tc1, .int cc2 tc2, .int cc3 tc3, .int cc4 tc4] ec), (L + 1 + 1 + 1 + 1, o4), (L + 1 + 1 + 1, c3), (L + 1 + 1, c2), (L + 1, c1), (296, tabObj #[])] :=
      ⟨_, _, _, _, _, _, _, by assumption, by assumption, by omega, _, rfl, rfl, F7, N7⟩
    have Q4 := HideP.mk qf4
    clear qc1 qc2 qc3 qf2 qf3 qf4
    (repeat (rename @LT.lt Nat _ _ _ ∧ _ => z9; clear z9))
    refine any_tok z _ rfl fun n => ?_
    clear F7 N7
    have hlow := low_ok (Int.fdiv cc0 24)
    generalize Int.fmod (Int.fdiv cc0 24) 2 = low at hlow N5
    obtain ⟨h0, h1, h2, h3, g0, g1, g3, g2, G, hb0, hb1, hb2, hb3⟩ := geo_of hfo hlow
    rw [g0, g1, g3, g2] at N5
    clear g0 g1 g3 g2 hlow hfo low
    (rename Heap => hD)
    revert N5
    revert hb3
    revert hb2
    revert hb1
    revert hb0
    revert G
    revert Q4
    revert F5
    revert w2
    revert w1
    revert lt4
    revert d3
    revert d2
    (rename Obj.data _ = Data.cell (some (Value.ref lf)) => z9; clear z9)
    revert lf ef f0 f1 f2 tf0 tf1 tf2 hD lh c2 c3 th0 th1 th2 th3 m n h0 h1 h2 h3
    refine eps16 (ne16 ne_nat ne_nat ne_int ne_int ne_int ne_nat ne_nat ne_nat ne_heap ne_nat ne_obj ne_obj ne_nat ne_nat ne_nat ne_nat) ((?_ : ∀ a0 a1 a2 a3 a4 a5 a6 a7 a8 a9 a10 a11 a12 a13 a14 a15, At16 _ a0 a1 a2 a3 a4 a5 a6 a7 a8 a9 a10 a11 a12 a13 a14 a15) _ _ _ _ _ _ _ _ _ _ _ _ _ _ _ _)
    intros lf ef f0 f1 f2 tf0 tf1 tf2 hD lh c2 c3 th0 th1 th2 th3
    refine At16.mk ?_
    refine eps4 (ne4 ne_map ne_nat ne_nat ne_nat) ((?_ : ∀ a0 a1 a2 a3, At4 _ a0 a1 a2 a3) _ _ _ _)
    intros m n h0 h1
    refine At4.mk ?_
    refine eps2 (ne2 ne_nat ne_nat) ((?_ : ∀ a0 a1, At2 _ a0 a1) _ _)
    intros h2 h3
    refine At2.mk ?_
    intros d2 d3 lt4 w1 w2 F5 Q4 G hb0 hb1 hb2 hb3 N5
    (rw [map_put w1] at F5); (rw [map_put w2] at F5)
    clear w1 w2
    have hq := hqd.qp
    have hq5 := qp5 hq
    refine cp_compA F5 rfl (by with_unfolding_all rfl) (by with_unfolding_all rfl) (by decide) rfl (by decide) rfl rfl ?_
    (try dsimp only)
    (try k_fold)
    k_steps
    refine Hold.on ?_
    (rename Fr g L _ _ => F8)
    (rename News g L _ _ => N8)
    refine cp_lstZ (vs := [Value.int cc1 tc1, .int cc2 tc2, .int cc3 tc3, .int cc4 tc4]) (fun i ys nx => nx = _ ∧ IntsAre ys (([cc1, cc2, cc3, cc4].map (unitE q)).take i)) rfl ⟨_, (N8 _ (.head _)).1, rfl, _, rfl⟩ (.inr ⟨_, fun _ _ nx h => by rw [h.1]; exact .head _⟩) (Nat.le_of_ble_eq_true rfl) F8 N8 rfl rfl ⟨rfl, .nil⟩ ?turn6 ?done6
    case turn6 =>
      (repeat (rename News _ _ _ _ => z9; clear z9)); (repeat (rename Fr _ _ _ _ => z9; clear z9)); (repeat (rename IsRange _ _ _ _ _ _ _ _ => z9; clear z9)); (repeat (rename IntsAre _ _ => z9; clear z9))
      intro R9 z9 I9 i9 v9 ys nx oI' oC C D9 m₂ h9 tk9 hv hj hadr hoC ha F9 N9 l1 l2 l3 fin9
      obtain ⟨rfl, hj⟩ := hj
      obtain ⟨x9, t8, hx, rfl⟩ := ints_at (hs := [cc1, cc2, cc3, cc4]) (.cons _ _ (.cons _ _ (.cons _ _ (.cons _ _ .nil)))) hv
      have go9 : GoOn := ⟨⟨⟩⟩
      k_steps
      refine Hold.on ?_
      have hq1 : 0 < q - 1 ∧ q - 1 ≤ 64 := by omega
      refine fd_small hq1 fun _ _ => ?_
      have hf4 := f4 (Int.fdiv x9 (q - 1))
      have hC : -(2 ^ 63) < Int.fmod (Int.fdiv x9 (q - 1)) 4 - 2 ∧ Int.fmod (Int.fdiv x9 (q - 1)) 4 - 2 < 2 ^ 63 := ⟨by omega, by omega⟩
      k_steps
      refine Hold.on ?_
      refine mul_nice (B := q) (C := Int.fmod (Int.fdiv x9 (q - 1)) 4 - 2) rfl rfl hC fun _ _ => ?_
      k_steps
      (rename News g L _ _ => N7)
      refine fin9 _ _ _ _ (by with_reducible assumption) N7 rfl ⟨rfl, ?_⟩
      exact unit_snoc hx hj
    case done6 =>
      (repeat (rename News _ _ _ _ => z9; clear z9)); (repeat (rename Fr _ _ _ _ => z9; clear z9)); (repeat (rename IsRange _ _ _ _ _ _ _ _ => z9; clear z9)); (repeat (rename IntsAre _ _ => z9; clear z9))
      intro hp ys nx hj _
      obtain ⟨rfl, hj⟩ := hj
      intro D9 h9 tk9 F9 N9 o9
      obtain ⟨tu0, tu1, tu2, tu3, rfl⟩ := ints_four (show IntsAre ys [unitE q cc1, unitE q cc2, unitE q cc3, unitE q cc4] from hj)
      clear hj
      have hU := units_of hq cc1 cc2 cc3 cc4
      generalize unitE q cc1 = u0 at N9 hU
      generalize unitE q cc2 = u1 at N9 hU
      generalize unitE q cc3 = u2 at N9 hU
      generalize unitE q cc4 = u3 at N9 hU
      obtain ⟨lu, m, w1, w2, w3, F5, N5⟩ : ∃ (lu : Addr) (m : Str → Option Value), m (Str.ofString "units") = some (.ref lu) ∧ m (Str.ofString "cells") = some (.ref lc) ∧ m (Str.ofString "depth") = some (.int (d : Nat) td) ∧ Fr g L _ m ∧
          News g L _ [(lu, LCg.lst [.int u0 tu0, .int u1 tu1, .int u2 tu2, .int u3 tu3]), (lh, W.listOf #[Value.int (h0 : Int) th0, .int (h1 : Int) th1, .int (h2 : Int) th2, .int (h3 : Int) th3] 0), (lf, W.listOf #[Value.int f0 tf0, .int f1 tf1, .int f2 tf2] ef),
            (lc, W.listOf #[Value.int cc0 tc0, .int cc1 tc1, .int cc2 tc2, .int cc3 tc3, .int cc4 tc4] ec), (L + 1 + 1 + 1 + 1, o4), (L + 1 + 1 + 1, c3), (L + 1 + 1, c2), (L + 1, c1), (296, tabObj #[])] :=
        ⟨_, _, rfl, rfl, rfl, F9, fun p hp => N9 p (by
          rcases List.mem_cons.mp hp with hp | hp
          · rw [hp]; exact .head _
          · exact .tail _ (.tail _ hp))⟩
      clear F9 N9 o9
      (try dsimp only)
      refine any_tok z _ rfl fun n => ?_
      revert N5
      revert F5
      revert w3
      revert w2
      revert w1
      revert hU
      clear qk ek; (repeat (rename List.map _ _ = List.map _ _ => z9; clear z9))
      revert h9 tu0 tu1 tu2 tu3 u0 u1 u2 u3 lu m n
      refine eps8 (ne8 ne_heap ne_nat ne_nat ne_nat ne_nat ne_int ne_int ne_int) ((?_ : ∀ a0 a1 a2 a3 a4 a5 a6 a7, At8 _ a0 a1 a2 a3 a4 a5 a6 a7) _ _ _ _ _ _ _ _)
      intros h9 tu0 tu1 tu2 tu3 u0 u1 u2
      refine At8.mk ?_
      refine eps4 (ne4 ne_int ne_nat ne_map ne_nat) ((?_ : ∀ a0 a1 a2 a3, At4 _ a0 a1 a2 a3) _ _ _ _)
      intros u3 lu m n
      refine At4.mk ?_
      intros hU w1 w2 w3 F5 N5
      (rw [map_put w1] at F5); (rw [map_put w2] at F5); (rw [map_put w3] at F5)
      clear w1 w2 w3
      (try dsimp only)
      (try k_fold)
      k_steps
      refine Hold.on ?_
      refine any_tok z _ rfl fun n => ?_
      (rename Fr g L _ _ => F5)
      refine cp_compA F5 rfl (by with_unfolding_all rfl) (by with_unfolding_all rfl) (by decide) rfl (by decide) rfl rfl ?_
      (try dsimp only)
      (try k_fold)
      k_steps
      refine Hold.on ?_
      (rename Fr g L _ _ => F8)
      (rename News g L _ _ => N8)
      refine cp_zip2 (xs := [.int u0 tu0, .int u1 tu1, .int u2 tu2, .int u3 tu3]) (ys := [.int h0 th0, .int h1 th1, .int h2 th2, .int h3 th3]) (fun i ys nx => nx = _ ∧ IntsAre ys ((([u0, u1, u2, u3].zip [h0, h1, h2, h3]).map (rowE q)).take i)) rfl ⟨_, (N8 _ (.head _)).1, rfl, _, rfl⟩ ⟨_, (N8 _ (.tail _ (.head _))).1, rfl, _, rfl⟩
        (.inr ⟨_, fun _ _ nx h => by rw [h.1]; exact .head _⟩) (.inr ⟨_, fun _ _ nx h => by rw [h.1]; exact .tail _ (.head _)⟩) (Nat.le_of_ble_eq_true rfl) rfl rfl rfl (by decide) F8 N8 ⟨rfl, .nil⟩ ?turn7 ?done7
      case turn7 =>
        (repeat (rename News _ _ _ _ => z9; clear z9)); (repeat (rename Fr _ _ _ _ => z9; clear z9)); (repeat (rename IsRange _ _ _ _ _ _ _ _ => z9; clear z9)); (repeat (rename IntsAre _ _ => z9; clear z9))
        refine eps8 (ne8 ne_post ne_shared ne_led ne_nat ne_value ne_value ne_vals ne_led) ((?_ : ∀ a0 a1 a2 a3 a4 a5 a6 a7, At8 _ a0 a1 a2 a3 a4 a5 a6 a7) _ _ _ _ _ _ _ _)
        intros R9 z9 own i9 v1 v2 ys nx
        refine At8.mk ?_
        refine eps4 (ne4 ne_obj ne_nat ne_nat ne_map) ((?_ : ∀ a0 a1 a2 a3, At4 _ a0 a1 a2 a3) _ _ _ _)
        intros oC C D9 m₂
        refine At4.mk ?_
        refine eps2 (ne2 ne_heap ne_nat) ((?_ : ∀ a0 a1, At2 _ a0 a1) _ _)
        intros h9 tk9
        refine At2.mk ?_
        intros hv1 hv2 hj hadr hoC ha hb F9 N9 l1 l2 fin9
        obtain ⟨rfl, hj⟩ := hj
        obtain ⟨x9, t8, hx, rfl⟩ := ints4_at hv1
        obtain ⟨y9, t7, hy, rfl⟩ := nats_at hv2
        have h7 := four_le hb0 hb1 hb2 hb3 hy
        have hC := pow7 hq5.1 h7
        clear hv1 hv2 hb0 hb1 hb2 hb3
        have go9 : GoOn := ⟨⟨⟩⟩
        k_steps
        refine Hold.on ?_
        refine pow_nice (B := q) (k := y9) rfl rfl (by omega) hq5.2 fun _ _ => ?_
        k_steps
        refine Hold.on ?_
        refine mul_nice (B := x9) (C := q ^ y9) rfl rfl hC fun _ _ => ?_
        k_steps
        (rename News g L _ _ => N7)
        refine fin9 _ _ _ _ (by with_reducible assumption) N7 rfl ⟨rfl, ?_⟩
        exact zip_map_snoc hx hy hj
      case done7 =>
        (repeat (rename News _ _ _ _ => z9; clear z9)); (repeat (rename Fr _ _ _ _ => z9; clear z9)); (repeat (rename IsRange _ _ _ _ _ _ _ _ => z9; clear z9)); (repeat (rename IntsAre _ _ => z9; clear z9))
        intro hp ys nx hj _
        obtain ⟨rfl, hj⟩ := hj
        intro D9 h9 tk9 F9 N9 o9
        obtain ⟨tr0, tr1, tr2, tr3, rfl⟩ := ints_four (show IntsAre ys [u0 * q ^ h0, u1 * q ^ h1, u2 * q ^ h2, u3 * q ^ h3] from hj)
        obtain ⟨hR0, hR1, hR2, hR3⟩ := rows_ok hq hU hb0 hb1 hb2 hb3
        clear hj hb0 hb1 hb2 hb3
        obtain ⟨r0, e0⟩ : ∃ r, u0 * q ^ h0 = r := ⟨_, rfl⟩
        obtain ⟨r1, e1⟩ : ∃ r, u1 * q ^ h1 = r := ⟨_, rfl⟩
        obtain ⟨r2, e2⟩ : ∃ r, u2 * q ^ h2 = r := ⟨_, rfl⟩
        obtain ⟨r3, e3⟩ : ∃ r, u3 * q ^ h3 = r := ⟨_, rfl⟩
        rw [e0] at N9 hR0
        rw [e1] at N9 hR1
        rw [e2] at N9 hR2
        rw [e3] at N9 hR3
        have ER := HideP.mk (And.intro e0 (And.intro e1 (And.intro e2 e3)))
        clear e0 e1 e2 e3
        obtain ⟨lr, m, w1, w2, w3, w4, F5, N5⟩ : ∃ (lr : Addr) (m : Str → Option Value), m (Str.ofString "row") = some (.ref lr) ∧ m (Str.ofString "units") = some (.ref lu) ∧ m (Str.ofString "cells") = some (.ref lc) ∧ m (Str.ofString "depth") = some (.int (d : Nat) td) ∧ Fr g L _ m ∧
            News g L _ [(lr, LCg.lst [.int r0 tr0, .int r1 tr1, .int r2 tr2, .int r3 tr3]), (lu, LCg.lst [.int u0 tu0, .int u1 tu1, .int u2 tu2, .int u3 tu3]), (lh, W.listOf #[Value.int (h0 : Int) th0, .int (h1 : Int) th1, .int (h2 : Int) th2, .int (h3 : Int) th3] 0), (lf, W.listOf #[Value.int f0 tf0, .int f1 tf1, .int f2 tf2] ef),
              (lc, W.listOf #[Value.int cc0 tc0, .int cc1 tc1, .int cc2 tc2, .int cc3 tc3, .int cc4 tc4] ec), (L + 1 + 1 + 1 + 1, o4), (L + 1 + 1 + 1, c3), (L + 1 + 1, c2), (L + 1, c1), (296, tabObj #[])] :=
          ⟨_, _, rfl, rfl, rfl, rfl, F9, N9⟩
        clear F9 N9 o9
        (try dsimp only)
        refine any_tok z _ rfl fun n => ?_
        revert N5
        revert F5
        revert w4
        revert w3
        revert w2
        revert w1
        revert ER
        revert hR3
        revert hR2
        revert hR1
        revert hR0
        clear qk ek; (repeat (rename List.map _ _ = List.map _ _ => z9; clear z9))
        revert h9 tr0 tr1 tr2 tr3 r0 r1 r2 r3 lr m n
        refine eps8 (ne8 ne_heap ne_nat ne_nat ne_nat ne_nat ne_int ne_int ne_int) ((?_ : ∀ a0 a1 a2 a3 a4 a5 a6 a7, At8 _ a0 a1 a2 a3 a4 a5 a6 a7) _ _ _ _ _ _ _ _)
        intros h9 tr0 tr1 tr2 tr3 r0 r1 r2
        refine At8.mk ?_
        refine eps4 (ne4 ne_int ne_nat ne_map ne_nat) ((?_ : ∀ a0 a1 a2 a3, At4 _ a0 a1 a2 a3) _ _ _ _)
        intros r3 lr m n
        refine At4.mk ?_
        intros hR0 hR1 hR2 hR3 ER w1 w2 w3 w4 F5 N5
        (rw [map_put w1] at F5); (rw [map_put w2] at F5); (rw [map_put w3] at F5); (rw [map_put w4] at F5)
        clear w1 w2 w3 w4
        (try dsimp only)
        (try k_fold)
        k_steps
        refine Hold.on ?_
        refine any_tok z _ rfl fun n => ?_
        (rename Fr g L _ _ => F5)
        refine cp_compA F5 rfl (by with_unfolding_all rfl) (by with_unfolding_all rfl) (by decide) rfl (by decide) rfl rfl ?_
        (try dsimp only)
        (try k_fold)
        k_steps
        refine Hold.on ?_
        (rename Fr g L _ _ => F8)
        (rename News g L _ _ => N8)
        refine cp_lstZ (vs := [Value.int r0 tr0, .int r1 tr1, .int r2 tr2, .int r3 tr3]) (fun i ys nx => nx = _ ∧ StrsAre ys (([r0, r1, r2, r3].map wordT).take i)) rfl ⟨_, (N8 _ (.head _)).1, rfl, _, rfl⟩ (.inr ⟨_, fun _ _ nx h => by rw [h.1]; exact .head _⟩) (Nat.le_of_ble_eq_true rfl) F8 N8 rfl rfl ⟨rfl, .nil⟩ ?turn8 ?done8
        case turn8 =>
          (repeat (rename News _ _ _ _ => z9; clear z9)); (repeat (rename Fr _ _ _ _ => z9; clear z9)); (repeat (rename IsRange _ _ _ _ _ _ _ _ => z9; clear z9)); (repeat (rename IntsAre _ _ => z9; clear z9))
          refine eps8 (ne8 ne_post ne_shared ne_nat ne_nat ne_value ne_vals ne_led ne_obj) ((?_ : ∀ a0 a1 a2 a3 a4 a5 a6 a7, At8 _ a0 a1 a2 a3 a4 a5 a6 a7) _ _ _ _ _ _ _ _)
          intros R9 z9 I9 i9 v9 ys nx oI'
          refine At8.mk ?_
          refine eps4 (ne4 ne_obj ne_nat ne_nat ne_map) ((?_ : ∀ a0 a1 a2 a3, At4 _ a0 a1 a2 a3) _ _ _ _)
          intros oC C D9 m₂
          refine At4.mk ?_
          refine eps2 (ne2 ne_heap ne_nat) ((?_ : ∀ a0 a1, At2 _ a0 a1) _ _)
          intros h9 tk9
          refine At2.mk ?_
          intros hv hj hadr hoC ha F9 N9 l1 l2 l3 fin9
          obtain ⟨rfl, hj⟩ := hj
          obtain ⟨x9, t8, hx, rfl⟩ := ints4_at hv
          obtain ⟨n9, hR9⟩ := rows4_at hx hR0 hR1 hR2 hR3
          have hB := hR9.big
          clear hv hR0 hR1 hR2 hR3
          have go9 : GoOn := ⟨⟨⟩⟩
          k_steps
          · refine Hold.on ?_
            rw [neg_max]
            k_dflt (refine' cl_pure (cl_letters _ _ hB) ?k1 ?k2 ?k3 ?k4 ?k5 ?k6 ?kp ?kd ?ku ?_; (case k1 => k_asm); (case k2 => k_asm); (case k3 => k_asm); (case k4 => k_asm); (case k5 => first | exact rfl | assumption); (case k6 => k_asm); (case kd => ktr_room); (case ku => ktr_units))
            case kp => trivial
            intro v9 h9 tk9 F9 N9 hp9
            obtain ⟨t9, rfl⟩ := hp9
            have hz9 := letS_len (max x9 (-x9))
            (try dsimp only)
            (try k_fold)
            k_steps
            (rename News g L _ _ => N7)
            refine fin9 _ _ _ _ (by with_reducible assumption) N7 rfl ⟨rfl, ?_⟩
            exact strs_map_snoc hx (wordT_neg (by assumption)) hj
          · refine Hold.on ?_
            rw [neg_max]
            k_dflt (refine' cl_pure (cl_letters _ _ hB) ?k1 ?k2 ?k3 ?k4 ?k5 ?k6 ?kp ?kd ?ku ?_; (case k1 => k_asm); (case k2 => k_asm); (case k3 => k_asm); (case k4 => k_asm); (case k5 => first | exact rfl | assumption); (case k6 => k_asm); (case kd => ktr_room); (case ku => ktr_units))
            case kp => trivial
            intro v9 h9 tk9 F9 N9 hp9
            obtain ⟨t9, rfl⟩ := hp9
            have hz9 := letS_len (max x9 (-x9))
            (try dsimp only)
            (try k_fold)
            k_steps
            (rename News g L _ _ => N7)
            refine fin9 _ _ _ _ (by with_reducible assumption) N7 rfl ⟨rfl, ?_⟩
            exact strs_map_snoc hx (wordT_pos (by assumption)) hj
        case done8 =>
          (repeat (rename News _ _ _ _ => z9; clear z9)); (repeat (rename Fr _ _ _ _ => z9; clear z9)); (repeat (rename IsRange _ _ _ _ _ _ _ _ => z9; clear z9)); (repeat (rename IntsAre _ _ => z9; clear z9))
          intro hp ys nx hj _
          obtain ⟨rfl, hj⟩ := hj
          intro D9 h9 tk9 F9 N9 o9
          obtain ⟨tw0, tw1, tw2, tw3, rfl⟩ := strs_four (show StrsAre ys [wordT r0, wordT r1, wordT r2, wordT r3] from hj)
          clear hj
          obtain ⟨lw, m, w1, w2, w3, w4, w5, F5, N5⟩ : ∃ (lw : Addr) (m : Str → Option Value), m (Str.ofString "words") = some (.ref lw) ∧ m (Str.ofString "row") = some (.ref lr) ∧ m (Str.ofString "units") = some (.ref lu) ∧ m (Str.ofString "cells") = some (.ref lc) ∧ m (Str.ofString "depth") = some (.int (d : Nat) td) ∧ Fr g L _ m ∧
              News g L _ [(lw, LCg.lst [.str (wordT r0) tw0, .str (wordT r1) tw1, .str (wordT r2) tw2, .str (wordT r3) tw3]), (lr, LCg.lst [.int r0 tr0, .int r1 tr1, .int r2 tr2, .int r3 tr3]), (lu, LCg.lst [.int u0 tu0, .int u1 tu1, .int u2 tu2, .int u3 tu3]), (lh, W.listOf #[Value.int (h0 : Int) th0, .int (h1 : Int) th1, .int (h2 : Int) th2, .int (h3 : Int) th3] 0), (lf, W.listOf #[Value.int f0 tf0, .int f1 tf1, .int f2 tf2] ef),
                (lc, W.listOf #[Value.int cc0 tc0, .int cc1 tc1, .int cc2 tc2, .int cc3 tc3, .int cc4 tc4] ec), (L + 1 + 1 + 1 + 1, o4), (L + 1 + 1 + 1, c3), (L + 1 + 1, c2), (L + 1, c1), (296, tabObj #[])] :=
            ⟨_, _, rfl, rfl, rfl, rfl, rfl, F9, N9⟩
          clear F9 N9 o9
          (try dsimp only)
          refine any_tok z _ rfl fun n => ?_
          revert N5
          revert F5
          revert w5
          revert w4
          revert w3
          revert w2
          revert w1
          clear qk ek; (repeat (rename List.map _ _ = List.map _ _ => z9; clear z9))
          revert h9 tw0 tw1 tw2 tw3 lw m n
          refine eps8 (ne8 ne_heap ne_nat ne_nat ne_nat ne_nat ne_nat ne_map ne_nat) ((?_ : ∀ a0 a1 a2 a3 a4 a5 a6 a7, At8 _ a0 a1 a2 a3 a4 a5 a6 a7) _ _ _ _ _ _ _ _)
          intros h9 tw0 tw1 tw2 tw3 lw m n
          refine At8.mk ?_
          intros w1 w2 w3 w4 w5 F5 N5
          (rw [map_put w1] at F5); (rw [map_put w2] at F5); (rw [map_put w3] at F5); (rw [map_put w4] at F5); (rw [map_put w5] at F5)
          clear w1 w2 w3 w4 w5
          (try dsimp only)
          (try k_fold)
          k_steps
          refine Hold.on ?_
          refine any_tok z _ rfl fun n => ?_
          k_dflt (refine' cl_pure (cl_letters q _ (by omega)) ?k1 ?k2 ?k3 ?k4 ?k5 ?k6 ?kp ?kd ?ku ?_; (case k1 => k_asm); (case k2 => k_asm); (case k3 => k_asm); (case k4 => k_asm); (case k5 => first | exact rfl | assumption); (case k6 => k_asm); (case kd => ktr_room); (case ku => ktr_units))
          case kp => trivial
          intro v9 h9 tk9 F9 N9 hp9
          obtain ⟨t9, rfl⟩ := hp9
          clear F5 N5
          have hz9 := letS_len q
          (try dsimp only)
          (try k_fold)
          k_steps
          refine Hold.on ?_
          refine cp_comp (by with_reducible assumption) (by with_unfolding_all rfl) (by decide) rfl (by decide) ?_
          k_steps
          refine Hold.on ?_
          (rename Fr g L _ _ => F8)
          (rename News g L _ _ => N8)
          refine cp_zip3 (xs := [.str (wordT r0) tw0, .str (wordT r1) tw1, .str (wordT r2) tw2, .str (wordT r3) tw3]) (ys := [.int cc1 tc1, .int cc2 tc2, .int cc3 tc3, .int cc4 tc4]) (n := 4) (fun i ys nx => nx = _ ∧ StrsAre ys (([(r0, cc1, 9), (r1, cc2, 9), (r2, cc3, 9), (r3, cc4, 10)].map (pieceT q)).take i)) rfl (by decide +kernel) ⟨_, (N8 _ (.tail _ (.head _))).1, rfl, _, rfl⟩ ⟨_, (N8 _ (.head _)).1, rfl, _, rfl⟩
            (.inr ⟨_, fun _ _ nx h => by rw [h.1]; exact .tail _ (.head _)⟩) (.inr ⟨_, fun _ _ nx h => by rw [h.1]; exact .head _⟩) rfl rfl (by decide +kernel) (Nat.le_of_ble_eq_true rfl) rfl rfl rfl rfl (by decide) (by decide) (by decide) F8 N8 ⟨rfl, .nil⟩ ?turn9 ?done9
          case turn9 =>
            (repeat (rename News _ _ _ _ => z9; clear z9)); (repeat (rename Fr _ _ _ _ => z9; clear z9)); (repeat (rename IsRange _ _ _ _ _ _ _ _ => z9; clear z9)); (repeat (rename IntsAre _ _ => z9; clear z9))
            intro R9 z9 own i9 v1 v2 d9 u9 ys nx oC C D9 m₂ h9 tk9 hv1 hv2 hv3 hj hadr hoC ha hb hc F9 N9 l1 l2 fin9
            obtain ⟨rfl, hj⟩ := hj
            obtain ⟨x9, y9, t8, t7, rfl, rfl, hx⟩ := pcs_at hv1 hv2 hv3
            have hz8 := wordT_len x9
            have hz7 := spell_len (wayE q y9) x9
            clear hv1 hv2 hv3 hR0 hR1 hR2 hR3
            have go9 : GoOn := ⟨⟨⟩⟩
            k_steps
            refine Hold.on ?_
            have hq0 : -(2 ^ 63) < q ∧ q < 2 ^ 63 := by omega
            refine mul_nice (B := 4) (C := q) rfl rfl hq0 fun _ _ => ?_
            k_steps
            refine Hold.on ?_
            have hq1 : 0 < 4 * q - 4 ∧ 4 * q - 4 ≤ 64 := by omega
            refine fd_small hq1 fun _ _ => ?_
            k_steps
            refine Hold.on ?_
            k_dflt (refine' cl_pure (cl_spelled _ _ (wayE q y9) _ hz8) ?k1 ?k2 ?k3 ?k4 ?k5 ?k6 ?kp ?kd ?ku ?_; (case k1 => k_asm); (case k2 => k_asm); (case k3 => k_asm); (case k4 => k_asm); (case k5 => first | exact rfl | assumption); (case k6 => k_asm); (case kd => ktr_room); (case ku => ktr_units))
            case kp => trivial
            intro v9 h9 tk9 F9 N9 hp9
            obtain ⟨t9, rfl⟩ := hp9
            (try dsimp only)
            (try k_fold)
            k_steps
            (rename News g L _ _ => N7)
            refine fin9 _ _ _ _ (by with_reducible assumption) N7 rfl ⟨rfl, ?_⟩
            exact strs_map_snoc hx rfl hj
          case done9 =>
            (repeat (rename News _ _ _ _ => z9; clear z9)); (repeat (rename Fr _ _ _ _ => z9; clear z9)); (repeat (rename IsRange _ _ _ _ _ _ _ _ => z9; clear z9)); (repeat (rename IntsAre _ _ => z9; clear z9))
            intro hp ys nx hj _
            obtain ⟨rfl, hj⟩ := hj
            intro D9 h9 tk9 F9 N9 o9
            clear hz9
            k_steps
            refine join_strs (ts := [(r0, cc1, 9), (r1, cc2, 9), (r2, cc3, 9), (r3, cc4, 10)].map (pieceT q)) ⟨_, (N9 _ (.head _)).1, rfl, _, rfl⟩ hj (join4_sum q _ _ _ _) fun _ _ => ?_
            have N5 := news_skip2 N9
            clear N9 hj o9
            refine add_page rfl fun _ _ => ?_
            have hpl := page_len q (r0, cc1, 9) (r1, cc2, 9) (r2, cc3, 9) (r3, cc4, 10)
            obtain ⟨pg, hpg⟩ : ∃ pg, pageC q [(r0, cc1, 9), (r1, cc2, 9), (r2, cc3, 9), (r3, cc4, 10)] = pg := ⟨_, rfl⟩
            rw [hpg] at hpl ⊢
            obtain ⟨m, w2, w3, w5, F5⟩ : ∃ m : Str → Option Value, m (Str.ofString "row") = some (.ref lr) ∧ m (Str.ofString "units") = some (.ref lu) ∧ m (Str.ofString "depth") = some (.int (d : Nat) td) ∧ Fr g L _ m := ⟨_, rfl, rfl, rfl, F9⟩
            clear F9
            (rw [map_put w2] at F5); (rw [map_put w3] at F5); (rw [map_put w5] at F5)
            clear w2 w3 w5
            refine any_tok z _ rfl fun n => ?_
            (try dsimp only)
            (try k_fold)
            k_steps
            refine Hold.on ?_
            (rename Fr g L _ _ => F8)
            (rename News g L _ _ => N8)
            obtain ⟨m, w2, w3, w5, F5⟩ : ∃ m : Str → Option Value, m (Str.ofString "row") = some (.ref lr) ∧ m (Str.ofString "units") = some (.ref lu) ∧ m (Str.ofString "depth") = some (.int (d : Nat) td) ∧ Fr g L _ m := ⟨_, rfl, rfl, rfl, F8⟩
            have N6 : News g L _ ([(lr, LCg.lst [.int r0 tr0, .int r1 tr1, .int r2 tr2, .int r3 tr3]), (lu, LCg.lst [.int u0 tu0, .int u1 tu1, .int u2 tu2, .int u3 tu3]), (lh, W.listOf #[Value.int (h0 : Int) th0, .int (h1 : Int) th1, .int (h2 : Int) th2, .int (h3 : Int) th3] 0), (lf, W.listOf #[Value.int f0 tf0, .int f1 tf1, .int f2 tf2] ef),
                (L + 1 + 1 + 1 + 1, o4), (L + 1 + 1 + 1, c3), (L + 1 + 1, c2), (L + 1, c1)] ++ [(296, tabObj #[])]) := news_subl N8 (.cons _ (.cons₂ _ (.cons₂ _ (.cons₂ _ (.cons₂ _ (.cons _ (.cons₂ _ (.cons₂ _ (.cons₂ _ (.cons₂ _ (List.Sublist.refl _)))))))))))
            clear F8 N8
            have hpl2 : (⟨pg.toArray⟩ : Str).length < 1000 := Nat.lt_trans hpl (by decide)
            k_dflt (refine' use_lexer hpl2 ?k1 F5 ?k3 ?k4 ?k5 N6 ?hne hcode ?kd ?ku ?_; (case k1 => k_asm); (case k3 => k_asm); (case k4 => k_asm); (case k5 => first | exact rfl | assumption); (case kd => ktr_room); (case ku => ktr_units))
            case hne =>
              obtain ⟨k4, k3, k2, k1⟩ := far296 l296
              exact off_cons (ne_tab_l N6 (.head _) rfl) (off_cons (ne_tab_l N6 (.tail _ (.head _)) rfl) (off_cons (ne_tab_l N6 (.tail _ (.tail _ (.head _))) rfl) (off_cons (ne_tab_l N6 (.tail _ (.tail _ (.tail _ (.head _)))) rfl) (off_cons k4 (off_cons k3 (off_cons k2 (off_cons k1 off_nil)))))))
            clear N6 hcode F5
            intro lx dx tp D rd c0 cc sg pb K tn fdl fdr co cco hsh key vs ep h9 tk9 hR hCh hA1 hA2 pT hOff F5 N9
            (rw [map_put w2] at F5); (rw [map_put w3] at F5); (rw [map_put w5] at F5)
            clear w2 w3 w5
            (try dsimp only)
            (try k_fold)
            have N7 := news_mid (l := lexAll lx dx tp D rd c0 cc sg pb K 1 tn fdl fdr co cco hsh key vs ep 0 ++ [(lr, _), (lu, _), (lh, _), (lf, _)]) (x := (L + 1 + 1 + 1 + 1, o4)) (r := [(L + 1 + 1 + 1, c3), (L + 1 + 1, c2), (L + 1, c1), (296, tabObj pT)]) N9
            clear N9
            refine store_cell rfl (by with_unfolding_all rfl) (by with_unfolding_all rfl) F5 N7 d4 ?hne2 ?_
            case hne2 =>
              obtain ⟨k3, k2, k1⟩ := cells_off L
              have mm : ∀ {x : Addr × Obj}, x ∈ [(lr, _), (lu, _), (lh, _), (lf, _)] → x ∈ (lexAll lx dx tp D rd c0 cc sg pb K 1 tn fdl fdr co cco hsh key vs ep 0 ++ [(lr, LCg.lst [.int r0 tr0, .int r1 tr1, .int r2 tr2, .int r3 tr3]), (lu, LCg.lst [.int u0 tu0, .int u1 tu1, .int u2 tu2, .int u3 tu3]), (lh, W.listOf #[Value.int (h0 : Int) th0, .int (h1 : Int) th1, .int (h2 : Int) th2, .int (h3 : Int) th3] 0), (lf, W.listOf #[Value.int f0 tf0, .int f1 tf1, .int f2 tf2] ef)]) ++ [(L + 1 + 1 + 1, c3), (L + 1 + 1, c2), (L + 1, c1), (296, tabObj pT)] := fun h => List.mem_append_left _ (List.mem_append_right _ h)
              exact off_app (off_app (fun q hq => Ne.symm (hOff q hq (L + 1 + 1 + 1 + 1, o4) (List.mem_of_getElem? (i := 4) rfl))) (off_cons (off_list N7 d4 (mm (.head _)) rfl) (off_cons (off_list N7 d4 (mm (.tail _ (.head _))) rfl) (off_cons (off_list N7 d4 (mm (.tail _ (.tail _ (.head _)))) rfl) (off_cons (off_list N7 d4 (mm (.tail _ (.tail _ (.tail _ (.head _))))) rfl) off_nil))))) (off_cons k3 (off_cons k2 (off_cons k1 (off_cons (Ne.symm (far296 l296).1) off_nil))))
            have hO : OffA (lexAs lx dx tp D rd c0 cc sg pb) [L + 1 + 1 + 1 + 1, lr, lu, lh, lf, L + 1 + 1 + 1, L + 1 + 1, L + 1, 296] := OffA.sub (offA_of hOff) (sub_mid _ _ _ _ _ _ _ _ _)
            have HA := HideP.mk (And.intro hA1 hA2)
            have HO := HideP.mk hO
            clear hOff N7 d4 hA1 hA2 hpl2 hO F5
            intro c4 h9 d4 F9 N9
            have N5 := news_in (l := lexAll lx dx tp D rd c0 cc sg pb K 1 tn fdl fdr co cco hsh key vs ep 0) N9
            dsimp only [lexAll, strmSub, List.cons_append, List.nil_append] at N5
            clear N9 l296 hkb
            (repeat (rename @LT.lt Nat _ _ _ ∧ _ => z9; clear z9))
            (repeat (rename List.map _ _ = _ => z9; clear z9))
            refine any_tok z _ rfl fun n => ?_
            revert N5
            revert F9
            revert d4
            revert HO
            revert HA
            revert hCh
            revert hR
            revert hpg
            revert hpl
            clear qk ek
            revert pg m lx dx tp D rd c0 cc sg pb K tn fdl fdr co cco hsh key vs ep pT c4 h9 n
            refine eps23 (ne23 (⟨[]⟩) ne_map ne_nat ne_nat ne_nat ne_nat ne_nat ne_nat ne_nat ne_nat ne_nat (⟨⟨0, 0, 0, 0, 0, 0, 0, 0, 0⟩⟩) ne_nat (⟨default⟩) (⟨default⟩) ne_obj ne_obj ne_int ne_nat ne_vals ne_nat (⟨#[]⟩) ne_obj) ((?_ : ∀ a0 a1 a2 a3 a4 a5 a6 a7 a8 a9 a10 a11 a12 a13 a14 a15 a16 a17 a18 a19 a20 a21 a22, At23 _ a0 a1 a2 a3 a4 a5 a6 a7 a8 a9 a10 a11 a12 a13 a14 a15 a16 a17 a18 a19 a20 a21 a22) _ _ _ _ _ _ _ _ _ _ _ _ _ _ _ _ _ _ _ _ _ _ _)
            intros pg m lx dx tp D rd c0 cc sg pb K tn fdl fdr co cco hsh key vs ep pT c4
            refine At23.mk ?_
            refine eps2 (ne2 ne_heap ne_nat) ((?_ : ∀ a0 a1, At2 _ a0 a1) _ _)
            intros h9 n
            refine At2.mk ?_
            intros hpl hpg hR hCh HA HO d4 F9 N5
            (try dsimp only)
            (try k_fold)
            k_steps
            (try dsimp only [List.cons_append, List.nil_append])
            obtain ⟨s1, g1, a1⟩ := read_head hq [(r0, cc1, 9), (r1, cc2, 9), (r2, cc3, 9), (r3, cc4, 10)]
            have hn1 := page_nls hq hR0 hR1 hR2 hR3 (x1 := cc1) (x2 := cc2) (x3 := cc3) (x4 := cc4)
            rw [hpg] at g1 hn1
            (rename Fr g L _ _ => F8)
            (rename News g L _ _ => N8)
            k_dflt (refine' use_get (K := K) (n := 1) (tn := tn) (fdl := fdl) (fdr := fdr) (co := co) (cco := cco) (hsh := hsh) (key := key) (vs := vs) (ep := ep) (epb := 0) (xs := pg) hR HA.h.1 HA.h.2 ?O hCh (Nat.lt_trans hpl (by decide)) g1 ?k1 ?k2 ?k3 ?k4 ?k5 ?kN ?kd ?ku ?_; (case k1 => k_asm); (case k2 => exact F8); (case k3 => k_asm); (case k4 => k_asm); (case k5 => first | exact rfl | assumption); (case kN => exact N8); (case kd => ktr_room); (case ku => ktr_units))
            case O => exact HO.h
            clear F8 N8 g1 hCh
            intro t9 vs n1 tn ep h9 tk9 hCh hn F9 N9
            rw [hn1] at hn
            clear hn1
            dsimp only [lexAll, strmSub, List.cons_append, List.nil_append] at N9
            (try dsimp only)
            (try k_fold)
            k_steps
            refine Hold.on ?_
            have hq8 : (txtN (headC q)).length < 1000 := Nat.lt_of_le_of_lt (head_len q) (by decide)
            k_dflt (refine' cl_pure (cl_signed (txtN (headC q)) _ hq8) ?k1 ?k2 ?k3 ?k4 ?k5 ?k6 ?kp ?kd ?ku ?_; (case k1 => k_asm); (case k2 => k_asm); (case k3 => k_asm); (case k4 => k_asm); (case k5 => first | exact rfl | assumption); (case k6 => k_asm); (case kd => ktr_room); (case ku => ktr_units))
            case kp => trivial
            intro v9 h9 tk9 F9 N9 hp9
            obtain ⟨t9, rfl⟩ := hp9
            rw [(head_ok hq).2]
            clear hq8
            (try dsimp only)
            (try k_fold)
            k_steps
            refine Hold.on ?_
            (rename Fr g L _ _ => F8)
            (rename News g L _ _ => N8)
            obtain ⟨m, tb, w1, w2, w3, w5, F5⟩ : ∃ (m : Str → Option Value) (tb : Tok), m (Str.ofString "base") = some (.int q tb) ∧ m (Str.ofString "row") = some (.ref lr) ∧ m (Str.ofString "units") = some (.ref lu) ∧ m (Str.ofString "depth") = some (.int (d : Nat) td) ∧ Fr g L _ m := ⟨_, _, rfl, rfl, rfl, rfl, F8⟩
            have N5 := N8
            clear N8 F8
            (rw [map_put w1] at F5); (rw [map_put w2] at F5); (rw [map_put w3] at F5); (rw [map_put w5] at F5)
            clear w1 w2 w3 w5
            refine any_tok z _ rfl fun n => ?_
            (rename Heap => hD)
            revert N5
            revert F5
            revert hn
            revert hCh
            revert a1
            revert s1 vs n1 tn ep hD m tb n
            refine eps8 (ne8 (⟨[]⟩) ne_vals ne_int ne_nat ne_nat ne_heap ne_map ne_nat) ((?_ : ∀ a0 a1 a2 a3 a4 a5 a6 a7, At8 _ a0 a1 a2 a3 a4 a5 a6 a7) _ _ _ _ _ _ _ _)
            intros s1 vs n1 tn ep hD m tb
            refine At8.mk ?_
            refine eps_all (ne_nat) ((?_ : ∀ a, AtE _ a) _)
            intros n
            refine AtE.mk ?_
            intros a1 hCh hn F5 N5
            refine cp_compA F5 rfl (by with_unfolding_all rfl) (by with_unfolding_all rfl) (by decide) rfl (by decide) rfl rfl ?_
            (try dsimp only)
            (try k_fold)
            k_steps
            refine Hold.on ?_
            (rename Fr g L _ _ => F8)
            (rename News g L _ _ => N8)
            (rename IsRange _ _ _ _ _ _ _ _ => rg9)
            refine cp_rngZ (n := 4) (RdJ (fun n tn vs ep => lexAll lx dx tp D rd c0 cc sg pb K n tn fdl fdr co cco hsh key vs ep 0 ++ [(L + 1 + 1 + 1 + 1, c4), (lr, LCg.lst [.int r0 tr0, .int r1 tr1, .int r2 tr2, .int r3 tr3]), (lu, LCg.lst [.int u0 tu0, .int u1 tu1, .int u2 tu2, .int u3 tu3]), (lh, W.listOf #[Value.int (h0 : Int) th0, .int (h1 : Int) th1, .int (h2 : Int) th2, .int (h3 : Int) th3] 0), (lf, W.listOf #[Value.int f0 tf0, .int f1 tf1, .int f2 tf2] ef), (L + 1 + 1 + 1, c3), (L + 1 + 1, c2), (L + 1, c1), (296, tabObj pT)]) q [(r0, cc1, 9), (r1, cc2, 9), (r2, cc3, 9), (r3, cc4, 10)] [r0, r1, r2, r3]) rfl rg9 ⟨rfl, by decide⟩ F8 N8 rfl rfl ⟨n1, tn, vs, ep, s1, rfl, hCh, a1, hn, .nil⟩ ?turnA ?doneA
            case turnA =>
              (repeat (rename News _ _ _ _ => z9; clear z9)); (repeat (rename Fr _ _ _ _ => z9; clear z9)); (repeat (rename IsRange _ _ _ _ _ _ _ _ => z9; clear z9)); (repeat (rename IntsAre _ _ => z9; clear z9))
              clear hCh a1 hn
              refine eps8 (ne8 ne_post ne_shared ne_nat ne_nat ne_nat ne_vals ne_led ne_obj) ((?_ : ∀ a0 a1 a2 a3 a4 a5 a6 a7, At8 _ a0 a1 a2 a3 a4 a5 a6 a7) _ _ _ _ _ _ _ _)
              intros R9 z9 I9 i9 t9 ys nx oI'
              refine At8.mk ?_
              refine eps4 (ne4 ne_obj ne_nat ne_nat ne_map) ((?_ : ∀ a0 a1 a2 a3, At4 _ a0 a1 a2 a3) _ _ _ _)
              intros oC C D9 m₂
              refine At4.mk ?_
              refine eps2 (ne2 ne_heap ne_nat) ((?_ : ∀ a0 a1, At2 _ a0 a1) _ _)
              intros h9 tk9
              refine At2.mk ?_
              intros hi hj hadr hoC ha F9 N9 l1 l2 l3 fin9
              obtain ⟨n5, tn5, vs5, ep5, s5, rfl, hC5, ha5, hn5, hI5⟩ := hj
              have hO5 := HideP.mk (offA_three HO.h (l := lexAll lx dx tp D rd c0 cc sg pb K n5 tn5 fdl fdr co cco hsh key vs5 ep5 0) rfl l1 l2 l3 oI' oC (LCg.lst ys))
              obtain ⟨x5, s6, e5, g6, a6, v6, z6⟩ := read_at hi hR0 hR1 hR2 hR3 ha5
              clear hR0 hR1 hR2 hR3 ha5 hadr
              have N9 := news_rot (l := lexAll lx dx tp D rd c0 cc sg pb K n5 tn5 fdl fdr co cco hsh key vs5 ep5 0) N9
              dsimp only [lexAll, strmSub, List.cons_append, List.nil_append] at N9
              have go9 : GoOn := ⟨⟨⟩⟩
              k_steps
              (try dsimp only [List.cons_append, List.nil_append])
              (rename Fr g L _ _ => F8)
              (rename News g L _ _ => N8)
              k_dflt (refine' use_get (K := K) (n := n5) (tn := tn5) (fdl := fdl) (fdr := fdr) (co := co) (cco := cco) (hsh := hsh) (key := key) (vs := vs5) (ep := ep5) (epb := 0) (xs := s5) hR HA.h.1 HA.h.2 ?OA hC5 z6 g6 ?k1 ?k2 ?k3 ?k4 ?k5 ?kN ?kd ?ku ?_; (case k1 => k_asm); (case k2 => exact F8); (case k3 => k_asm); (case k4 => k_asm); (case k5 => first | exact rfl | assumption); (case kN => exact N8); (case kd => ktr_room); (case ku => ktr_units))
              case OA => exact hO5.h
              clear F8 N8 N9 g6 hC5 hO5
              intro t8 vs6 n6 tn6 ep6 h9 tk9 hC6 hn6 F9 N9
              have hn7 := hn6.trans hn5
              clear hn6 hn5
              dsimp only [lexAll, strmSub, List.cons_append, List.nil_append] at N9
              (try dsimp only)
              (try k_fold)
              k_steps
              refine Hold.on ?_
              have hq8 : (txtN (wordC x5)).length < 1000 := Nat.lt_of_le_of_lt (wordC_len x5) (by decide)
              k_dflt (refine' cl_pure (cl_signed (txtN (wordC x5)) _ hq8) ?k1 ?k2 ?k3 ?k4 ?k5 ?k6 ?kp ?kd ?ku ?_; (case k1 => k_asm); (case k2 => k_asm); (case k3 => k_asm); (case k4 => k_asm); (case k5 => first | exact rfl | assumption); (case k6 => k_asm); (case kd => ktr_room); (case ku => ktr_units))
              case kp => trivial
              intro v9 h9 tk9 F9 N9 hp9
              obtain ⟨t9, rfl⟩ := hp9
              rw [v6]
              clear hq8 v6
              (try dsimp only)
              (try k_fold)
              k_steps
              (rename Fr g L _ _ => F8)
              (rename News g L _ _ => N8)
              exact fin9 _ _ _ _ F8 (news_tor (l := lexAll lx dx tp D rd c0 cc sg pb K n6 tn6 fdl fdr co cco hsh key vs6 ep6 0) N8) rfl ⟨n6, tn6, vs6, ep6, s6, rfl, hC6, a6, hn7, ints_take_snoc e5 hI5⟩
            case doneA =>
              (repeat (rename News _ _ _ _ => z9; clear z9)); (repeat (rename Fr _ _ _ _ => z9; clear z9)); (repeat (rename IsRange _ _ _ _ _ _ _ _ => z9; clear z9)); (repeat (rename IntsAre _ _ => z9; clear z9))
              clear hCh a1 hn
              intro hp ys nx hj _
              obtain ⟨n1, tn, vs, ep, s1, rfl, hCh, a1, hn, hI⟩ := hj
              intro D9 h9 tk9 F9 N9 o9
              obtain ⟨ts0, ts1, ts2, ts3, rfl⟩ := ints_four (show IntsAre ys [r0, r1, r2, r3] from hI)
              have HO2 := HideP.mk (offA_new (l := lexAll lx dx tp D rd c0 cc sg pb K n1 tn fdl fdr co cco hsh key vs ep 0) (o := LCg.lst [.int r0 ts0, .int r1 ts1, .int r2 ts2, .int r3 ts3]) HO.h rfl o9)
              have N5 := news_in1 (l := lexAll lx dx tp D rd c0 cc sg pb K n1 tn fdl fdr co cco hsh key vs ep 0) N9
              obtain ⟨lrd, m, w1, w2, w3, w4, w5, HO3, F5, N8⟩ : ∃ (lrd : Addr) (m : Str → Option Value), m (Str.ofString "read") = some (.ref lrd) ∧ m (Str.ofString "base") = some (.int q tb) ∧ m (Str.ofString "row") = some (.ref lr) ∧ m (Str.ofString "units") = some (.ref lu) ∧ m (Str.ofString "depth") = some (.int (d : Nat) td) ∧ HideP (OffA (lexAs lx dx tp D rd c0 cc sg pb) (lrd :: [L + 1 + 1 + 1 + 1, lr, lu, lh, lf, L + 1 + 1 + 1, L + 1 + 1, L + 1, 296])) ∧ Fr g L _ m ∧
                News g L _ (lexAll lx dx tp D rd c0 cc sg pb K n1 tn fdl fdr co cco hsh key vs ep 0 ++ (lrd, LCg.lst [.int r0 ts0, .int r1 ts1, .int r2 ts2, .int r3 ts3]) :: _) := ⟨_, _, rfl, rfl, rfl, rfl, rfl, HO2, F9, N5⟩
              clear HO2 HO N5 N9 F9 o9 hI
              dsimp only [lexAll, strmSub, List.cons_append, List.nil_append] at N8
              (rw [map_put w1] at F5); (rw [map_put w2] at F5); (rw [map_put w3] at F5); (rw [map_put w4] at F5); (rw [map_put w5] at F5)
              clear w1 w2 w3 w4 w5
              refine any_tok z _ rfl fun n => ?_
              revert N8
              revert F5
              revert HO3
              revert hn
              revert hCh
              revert a1
              clear qk ek; (repeat (rename List.map _ _ = List.map _ _ => z9; clear z9))
              revert hp n1 tn vs ep s1 D9 h9 tk9 ts0 ts1 ts2 ts3 lrd m n
              refine eps16 (ne16 ne_heap ne_int ne_nat ne_vals ne_nat (⟨[]⟩) ne_nat ne_heap ne_nat ne_nat ne_nat ne_nat ne_nat ne_nat ne_map ne_nat) ((?_ : ∀ a0 a1 a2 a3 a4 a5 a6 a7 a8 a9 a10 a11 a12 a13 a14 a15, At16 _ a0 a1 a2 a3 a4 a5 a6 a7 a8 a9 a10 a11 a12 a13 a14 a15) _ _ _ _ _ _ _ _ _ _ _ _ _ _ _ _)
              intros hp n1 tn vs ep s1 D9 h9 tk9 ts0 ts1 ts2 ts3 lrd m n
              refine At16.mk ?_
              intros a1 hCh hn HO3 F5 N8
              (try dsimp only)
              (try k_fold)
              k_steps
              refine Hold.on ?_
              (rename Fr g L _ _ => F8)
              (rename News g L _ _ => N7)
              k_dflt (refine' use_sides (ep := 4) hqd hR0 hR1 hR2 hR3 ?k1 ?k2 ?k3 ?k4 ?k5 N7 ?hm ?kd ?ku ?_; (case k1 => k_asm); (case k2 => exact F8); (case k3 => k_asm); (case k4 => k_asm); (case k5 => first | exact rfl | assumption); (case hm => exact List.mem_of_getElem? (i := 9) rfl); (case kd => ktr_room); (case ku => ktr_units))
              clear F8 N7
              intro hx hdx hl hh hkT vT epT tl h9 tk9 hvl hvo hlt hgt hoff F5 N8
              obtain ⟨tlA, EA, HT, N5⟩ := law_hide (tl := tl) N8 hvo
              clear N8
              have HOF := HideP.mk hoff
              have HV := HideP.mk hvo
              have HG := HideP.mk hgt
              clear hoff hvo hgt
              refine any_tok z _ rfl fun n => ?_
              revert HG
              revert HV
              revert HOF
              revert N5
              revert F5
              revert HT
              revert EA
              revert hlt
              revert hvl
              revert hx hdx hl hh hkT vT epT tl h9 tk9 tlA n
              refine eps8 (ne8 ne_nat ne_nat ne_nat ne_int ne_nat ne_vals ne_nat ne_led) ((?_ : ∀ a0 a1 a2 a3 a4 a5 a6 a7, At8 _ a0 a1 a2 a3 a4 a5 a6 a7) _ _ _ _ _ _ _ _)
              intros hx hdx hl hh hkT vT epT tl
              refine At8.mk ?_
              refine eps4 (ne4 ne_heap ne_nat ne_led ne_nat) ((?_ : ∀ a0 a1 a2 a3, At4 _ a0 a1 a2 a3) _ _ _ _)
              intros h9 tk9 tlA n
              refine At4.mk ?_
              intros hvl hlt EA HT F5 N5 HOF HV HG
              (try dsimp only)
              (try k_fold)
              k_steps
              refine Hold.on ?_
              (rename Fr g L _ _ => F8)
              (rename News g L _ _ => N7)
              obtain ⟨m, w0, w1, w2, w3, w4, w5, F5⟩ : ∃ m : Str → Option Value, m (Str.ofString "sides") = some (.ref hx) ∧ m (Str.ofString "read") = some (.ref lrd) ∧ m (Str.ofString "base") = some (.int q tb) ∧ m (Str.ofString "row") = some (.ref lr) ∧ m (Str.ofString "units") = some (.ref lu) ∧ m (Str.ofString "depth") = some (.int (d : Nat) td) ∧ Fr g L _ m := ⟨_, rfl, rfl, rfl, rfl, rfl, rfl, F8⟩
              (rename Heap => hD)
              revert F5
              revert w5
              revert w4
              revert w3
              revert w2
              revert w1
              revert w0
              revert N7
              revert F8
              clear qk ek
              revert hD tk m
              refine eps3 (ne3 ne_heap ne_nat ne_map) ((?_ : ∀ a0 a1 a2, At3 _ a0 a1 a2) _ _ _)
              intros hD tk m
              refine At3.mk ?_
              intros F8 N7 w0 w1 w2 w3 w4 w5 F5
              refine if_cut false F5 N7 ?cond ?yes ?no
              case yes => intro h; cases h
              case cond =>
                refine eps_all (ne_post) ((?_ : ∀ a, AtE _ a) _)
                intros R9
                refine AtE.mk ?_
                intros fin9
                have N5 := N7
                clear N7 F8 hCh a1 hn hR1 hR2 hR3 hU
                (rw [map_put w0] at F5); (rw [map_put w5] at F5)
                have go9 : GoOn := ⟨⟨⟩⟩
                k_steps
                refine Hold.on ?_
                (rename Fr _ _ _ _ => F8)
                (rename News _ _ _ _ => N7)
                k_dflt (refine kba_turn (value' := PySem.Expr.Name (Str.ofString "_") ⟨0, 0, 0, 0⟩) (fun _ => rfl) ?_)
                k_dflt (refine' kms_slice_lit F8 N7 ⟨_, (N7 _ (.head _)).1, rfl, _, rfl⟩ .none .none (pick_all vT) ?sl ?sS ?sT (small_list hvl hqd); (case sS => with_unfolding_all rfl); (case sT => kmk_pure))
                intro D9 h9 F9 N9 l9
                (try dsimp only)
                (try k_fold)
                clear F8 N7
                k_steps
                refine Hold.on ?_
                (rename Fr g L _ _ => F8)
                (rename News g L _ _ => N7)
                have hd6 := (qd_facts hqd).1
                k_dflt (refine' cp_cellRng d (CmJ (fun t3 => (D9, W.listOf vT.toArray 0) :: (hl, W.listOf vT.toArray epT) :: (hx, instObj 268 hdx) :: (hdx, hdrDict hh hkT hl) :: (L + 1 + 1 + 1, c3) :: (L + 1 + 1, c2) :: (L + 1, c1) :: (lh, W.listOf #[Value.int (h0 : Int) th0, .int (h1 : Int) th1, .int (h2 : Int) th2, .int (h3 : Int) th3] 0) :: (lf, W.listOf #[Value.int f0 tf0, .int f1 tf1, .int f2 tf2] ef) :: t3) tlA (loAt h0 h1 h2 h3)) F8 N7 ?q1 ?q2 ?q3 ?q4 ?q5 ?q6 ?q7 ?q8 ?first ?hJ ?turnB ?doneB ?q9)
                case q1 => with_unfolding_all rfl
                case q2 => exact rfl
                case q3 => with_unfolding_all rfl
                case q4 => decide
                case q5 => exact fun _ _ => rfl
                case q6 => exact fun _ => rfl
                case q7 => exact rfl
                case q8 => exact Nat.lt_of_le_of_lt hd6 (by decide)
                case q9 => intro _; rfl
                case hJ => exact ⟨tlA, rfl, ⟨fun _ h => h⟩, ⟨fun j v e => (by simp at e)⟩, rfl⟩
                case first =>
                  intro R8 fin8
                  k_steps
                  (rename IsRange _ _ _ _ _ _ _ _ => rg9)
                  (rename Fr g L _ _ => F7)
                  (rename News g L _ _ => N6)
                  exact fin8 _ _ _ _ _ _ rg9 F7 N6
                case turnB =>
                  (repeat (rename News _ _ _ _ => z9; clear z9)); (repeat (rename Fr _ _ _ _ => z9; clear z9)); (repeat (rename IsRange _ _ _ _ _ _ _ _ => z9; clear z9)); (repeat (rename IntsAre _ _ => z9; clear z9))
                  intro R8 z8 I8 D8 C8 K8 oI oC oK i8 t8 ys nx h8 tk8 hi hj hK F9 N9 hap l1 l2 l3 fin8
                  obtain ⟨t3, rfl, s3, H3, rfl⟩ := hj
                  (try dsimp only at N9)
                  k_steps
                  refine Hold.on ?_
                  refine cp_comp (by with_reducible assumption) (by with_unfolding_all rfl) (by decide) rfl (by decide) ?_
                  (try dsimp only)
                  (try k_fold)
                  k_steps
                  refine Hold.on ?_
                  (rename Fr g L _ _ => F8)
                  (rename News g L _ _ => N8)
                  refine cp_lstZ (vs := [.int f0 tf0, .int f1 tf1, .int f2 tf2]) (fun j zs nx => nx = _ ∧ IntsAre zs (([f0, f1, f2].map (minE ys.length)).take j)) rfl ⟨_, (N8 _ (List.mem_of_getElem? (i := 12) rfl)).1, rfl, _, rfl⟩ (.inr ⟨_, fun _ _ nx h => by rw [h.1]; exact List.mem_of_getElem? (i := 12) rfl⟩) (Nat.le_of_ble_eq_true rfl) F8 N8 rfl rfl ⟨rfl, .nil⟩ ?turnC ?doneC
                  case turnC =>
                    (repeat (rename News _ _ _ _ => z9; clear z9)); (repeat (rename Fr _ _ _ _ => z9; clear z9)); (repeat (rename IsRange _ _ _ _ _ _ _ _ => z9; clear z9)); (repeat (rename IntsAre _ _ => z9; clear z9))
                    intro R9 z9 I9 i9 v9 zs nx oI' oC' C D' m₂ h9 tk9 hv hj hadr hoC ha F9 N9 l1' l2' l3' fin9
                    obtain ⟨rfl, hj⟩ := hj
                    obtain ⟨x9, t9, hx9, rfl⟩ := ints3_at hv
                    clear hadr hap fin8
                    k_steps
                    (rename Fr g L _ _ => F7)
                    (rename News g L _ _ => N7)
                    exact fin9 _ _ _ _ F7 N7 rfl ⟨rfl, ints_map_snoc hx9 hj (min_if _ _)⟩
                  case doneC =>
                    (repeat (rename News _ _ _ _ => z9; clear z9)); (repeat (rename Fr _ _ _ _ => z9; clear z9)); (repeat (rename IsRange _ _ _ _ _ _ _ _ => z9; clear z9)); (repeat (rename IntsAre _ _ => z9; clear z9))
                    intro hp zs nx hj _
                    obtain ⟨rfl, hj⟩ := hj
                    intro D7 h9 tk9 F9 N9 o9
                    k_steps
                    refine Hold.on ?_
                    have hl8 := lo_small (h1 := h1) (h2 := h2) (h3 := h3) hq5.1 hR0 ys.length
                    rw [lo_sumV G ys.length]
                    k_dflt (refine' cl_pure (cl_letters _ _ (lo_letters hl8)) ?k1 ?k2 ?k3 ?k4 ?k5 ?k6 ?kp ?kd ?ku ?_; (case k1 => k_asm); (case k2 => k_asm); (case k3 => k_asm); (case k4 => k_asm); (case k5 => first | exact rfl | assumption); (case k6 => k_asm); (case kd => ktr_room); (case ku => ktr_units))
                    case kp => trivial
                    intro v9 h9 tk9 F9 N9 hp9
                    obtain ⟨t9, rfl⟩ := hp9
                    rw [letS_small hl8]
                    (try dsimp only)
                    (try k_fold)
                    k_steps
                    (rename Fr g L _ _ => F7)
                    (rename News g L _ _ => N6)
                    (rename @LT.lt Nat _ _ _ ∧ _ => l9)
                    exact fin8 _ _ _ _ F7 (news_totail N6) (ap_totail hap l9.2.2.2.2.1) ⟨_, rfl, ⟨fun p hp => .tail _ (s3.h p hp)⟩, ⟨HdrOk.snoc H3.h rfl⟩, by rw [List.length_append]; rfl⟩
                case doneB =>
                  (repeat (rename News _ _ _ _ => z9; clear z9)); (repeat (rename Fr _ _ _ _ => z9; clear z9)); (repeat (rename IsRange _ _ _ _ _ _ _ _ => z9; clear z9)); (repeat (rename IntsAre _ _ => z9; clear z9))
                  intro D ys nx h8 tk8 hj F9 N9 o9
                  obtain ⟨t3, rfl, s3, H3, hl3⟩ := hj
                  (try dsimp only at N9)
                  (try dsimp only)
                  obtain ⟨P1, P2⟩ := done_pairs N9 H3.h HT.h s3.h
                  have l1 := (N9 _ (.tail _ (.head _))).1
                  have l2 := (N9 _ (.head _)).1
                  k_dflt (refine' ne_pairs (f := pairF (loAt h0 h1 h2 h3)) ⟨_, l1, rfl, _, rfl⟩ ⟨_, l2, rfl, _, rfl⟩ P2 P1 (hvl.trans hl3.symm) (pair_ok (lo_small hq5.1 hR0)) ?ku ?_; (case ku => ktr_units))
                  clear P1 P2 l1 l2
                  (try dsimp only)
                  (try k_fold)
                  k_steps
                  exact fin9 _ _ ((put_back w0 w5) ▸ F9) (news_back N9 s3.h)
              case no =>
                intro _ h9 tk9 F5 N5
                have HH := off_map HOF.h
                rw [← EA.h] at N5
                clear EA HT F8 N7 HOF
                (rw [map_put w0] at F5); (rw [map_put w1] at F5); (rw [map_put w2] at F5); (rw [map_put w3] at F5); (rw [map_put w4] at F5); (rw [map_put w5] at F5)
                clear w0 w1 w2 w3 w4 w5
                (try dsimp only)
                (try k_fold)
                k_steps
                refine Hold.on ?_
                (rename Fr g L _ _ => F8)
                (rename News g L _ _ => N7)
                k_dflt (refine' use_grow (K := K) (n := n1) (tn := tn) (fdl := fdl) (fdr := fdr) (co := co) (cco := cco) (hsh := hsh) (key := key) (vs := vs) (ep := ep) (epb := 0) (epr := 4) hqd hvl HV.h hR0 hlt HG.h HA.h.1 HA.h.2 HO3.h HH ?k1 ?k2 ?k3 ?k4 ?k5 N7 ?kd ?ku ?_; (case k1 => k_asm); (case k2 => exact F8); (case k3 => k_asm); (case k4 => k_asm); (case k5 => first | exact rfl | assumption); (case kd => ktr_room); (case ku => ktr_units))
                clear F8 N7 HH HG HV HO3 hlt hvl
                intro lt ws ept epb h9 tk9 hS hO9 F5 N5
                have HO9 := HideP.mk hO9
                clear hO9
                dsimp only [lexAll, strmSub, List.cons_append, List.nil_append] at N5
                (try dsimp only)
                (try k_fold)
                k_steps
                refine Hold.on ?_
                (rename Fr g L _ _ => F8)
                (rename News g L _ _ => N7)
                have hH := hs_ok hq hR0 hR1 hR2 hR3
                k_dflt (refine' cl_pure (cl_newton lr lu lh lf r0 r1 r2 r3 u0 u1 u2 u3 h0 h1 h2 h3 f0 f1 f2 q d tr0 tr1 tr2 tr3 tu0 tu1 tu2 tu3 th0 th1 th2 th3 tf0 tf1 tf2 tq td (qd_facts hqd).1 hq hU hH) ?k1 ?k2 ?k3 ?k4 ?k5 ?k6 ?kp ?kd ?ku ?_; (case k1 => k_asm); (case k2 => k_asm); (case k3 => k_asm); (case k4 => k_asm); (case k5 => first | exact rfl | assumption); (case k6 => k_asm); (case kd => ktr_room); (case ku => ktr_units))
                case kp => exact ⟨⟨_, (N7 _ (List.mem_of_getElem? (i := 11) rfl)).1, rfl, _, rfl⟩, ⟨_, (N7 _ (List.mem_of_getElem? (i := 12) rfl)).1, rfl, _, rfl⟩, ⟨_, (N7 _ (List.mem_of_getElem? (i := 13) rfl)).1, rfl, _, rfl⟩, ⟨_, (N7 _ (List.mem_of_getElem? (i := 14) rfl)).1, rfl, _, rfl⟩⟩
                clear hH hR1 hR2 hR3
                intro v9 h9 tk9 F9 N9 hp9
                obtain ⟨ln, vn, en, rfl, hS2, gn, nn⟩ := hp9
                have hS3 := grow_told hq hU G ER.h hS2
                have hok := HideP.mk (grow_strOk (r0 := r0) (r1 := r1) (r2 := r2) (r3 := r3) (lo := loAt h0 h1 h2 h3) hq d)
                have hS4 := HideP.mk hS3
                have hS5 := HideP.mk hS
                have N5 := news_more N9 gn (new_apart F8 N7 nn).1.1 (new_apart F8 N7 nn).1.2
                clear nn N7 F8 ER hU G hS2 hS3 hS gn N9
                (try dsimp only)
                (try k_fold)
                k_steps
                refine Hold.on ?_
                (rename Fr g L _ _ => F8)
                (rename News g L _ _ => N8)
                k_dflt (refine' eq_strs ⟨_, (N8 _ (List.mem_of_getElem? (i := 10) rfl)).1, rfl, _, rfl⟩ ⟨_, (N8 _ (List.mem_of_getElem? (i := 0) rfl)).1, rfl, _, rfl⟩ hS5.h hS4.h hok.h ?ku ?_; (case ku => ktr_units))
                clear hS5 hS4 hok
                have N5 := news_skip1 N8
                clear N8
                (try dsimp only)
                (try k_fold)
                k_steps
                refine Hold.on ?_
                (try dsimp only [List.append_nil])
                (rename Fr g L _ _ => F8)
                (rename News g L _ _ => N8)
                have g9 := read_end a1
                have z9 : s1.length < 1000 := Nat.lt_of_le_of_lt (after_len a1) (show ([] : List Nat).length + 1 < 1000 by decide)
                k_dflt (refine' use_get (K := K) (n := n1) (tn := tn) (fdl := fdl) (fdr := fdr) (co := co) (cco := cco) (hsh := hsh) (key := key) (vs := vs) (ep := ep) (epb := epb) (xs := s1) hR HA.h.1 HA.h.2 ?OE hCh z9 g9 ?k1 ?k2 ?k3 ?k4 ?k5 ?kN ?kd ?ku ?_; (case k1 => k_asm); (case k2 => exact F8); (case k3 => k_asm); (case k4 => k_asm); (case k5 => first | exact rfl | assumption); (case kN => exact N8); (case kd => ktr_room); (case ku => ktr_units))
                case OE => exact HO9.h
                clear F8 N8 g9 z9 hCh a1 HO9
                intro t9 vs n9 tn ep h9 tk9 hCh hn9 F9 N9
                have hn7 : n9 = 3 := by have := hn9.trans hn; rwa [nls_nil, Int.add_zero] at this
                subst hn7
                clear hn hn9 hCh
                rw [txt_nil]
                dsimp only [lexAll, strmSub, List.cons_append, List.nil_append] at N9
                (try dsimp only)
                (try k_fold)
                k_steps
                (rename Fr g L _ _ => F8)
                (rename News g L _ _ => N8)
                (rename _ = #[] => hgens)
                refine fin _ _ ?_
                dsimp only
                refine law_endS ?hb F8 N8 hgens
                exact rfl
  )
end Mine
theorem PySem.Challenge.cw_wj0057_01_holds : PySem.Challenge.rw_wj0057_01.Holds :=
  Mine.law_try
