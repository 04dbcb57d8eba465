import PyProof.Rows.All
import Wide.All
import OpenK.AllK
import Wide.FinOn
import PySem.Challenge.RW_uk0004_01
open PySem PySem.W PySem.Calls PyProof.Rows
set_option Elab.async false
set_option maxRecDepth 100000
set_option maxHeartbeats 8000000
namespace Mine
noncomputable def eps {α : Type} (i : Nonempty α) (P : α → Prop) : α := @Classical.epsilon _ i (fun x => ¬ P x)
theorem all_eps {α : Type} [i : Nonempty α] {P : α → Prop} (h : P (eps i P)) : ∀ x, P x := fun x => Classical.byContradiction fun hx => @Classical.epsilon_spec _ (fun x => ¬ P x) ⟨x, hx⟩ h
theorem ex_elim {α : Type} {H : α → Prop} {G : Prop} (h : ∃ x, H x) (f : ∀ x, H x → G) : G := Exists.elim h f
theorem neSh : Nonempty Shared := ⟨{}⟩
theorem neAr : Nonempty PySem.Around := ⟨{}⟩
theorem neEx : Nonempty PySem.ExcName := ⟨.own ""⟩
theorem neWo : Nonempty PySem.World := ⟨fun _ _ => 0, { strHash := fun _ => 0, shareClass := fun _ => 0, mergeTok := fun t => t, idOf := fun _ => 0, idOfShared := fun _ _ => 0, followText := fun _ => true, idOfImm := fun _ => 0 }⟩
theorem neP {A B : Type} (a : Nonempty A) (b : Nonempty B) : Nonempty (A × B) := a.elim fun x => b.elim fun y => ⟨(x, y)⟩
noncomputable def tl {A R : Type} (t : A × R) : R := t.2
noncomputable def pj0 {A R : Type} (t : A × R) : A := t.1
noncomputable def pj1 {A R : Type} (t : A × R) : A := t.1
noncomputable def pj2 {A R : Type} (t : A × R) : A := t.1
noncomputable def pj3 {A R : Type} (t : A × R) : A := t.1
noncomputable def pj4 {A R : Type} (t : A × R) : A := t.1
noncomputable def pj5 {A R : Type} (t : A × R) : A := t.1
noncomputable def pj6 {A R : Type} (t : A × R) : A := t.1
noncomputable def pj7 {A R : Type} (t : A × R) : A := t.1
noncomputable def pj8 {A R : Type} (t : A × R) : A := t.1
noncomputable def pj9 {A R : Type} (t : A × R) : A := t.1
noncomputable def pj10 {A R : Type} (t : A × R) : A := t.1
noncomputable def pj11 {A R : Type} (t : A × R) : A := t.1
noncomputable def pj12 {A R : Type} (t : A × R) : A := t.1
noncomputable def pj13 {A R : Type} (t : A × R) : A := t.1
noncomputable def pj14 {A R : Type} (t : A × R) : A := t.1
noncomputable def pj15 {A R : Type} (t : A × R) : A := t.1
noncomputable def pj16 {A R : Type} (t : A × R) : A := t.1
noncomputable def pj17 {A R : Type} (t : A × R) : A := t.1
noncomputable def pj18 {A R : Type} (t : A × R) : A := t.1
noncomputable def pj19 {A R : Type} (t : A × R) : A := t.1
noncomputable def pj20 {A R : Type} (t : A × R) : A := t.1
noncomputable def pj21 {A R : Type} (t : A × R) : A := t.1
noncomputable def pj22 {A R : Type} (t : A × R) : A := t.1
noncomputable def pj23 {A R : Type} (t : A × R) : A := t.1
theorem all_eps2 {A0 A1 : Type} [i : Nonempty (A0 × A1 × Unit)] {P : A0 → A1 → Prop} (h : haveI t0 := eps i (fun t0 => haveI t1 := tl t0; P (pj0 t0) (pj1 t1)); haveI t1 := tl t0; P (pj0 t0) (pj1 t1)) : ∀ x0 x1, P x0 x1 := fun x0 x1 => @all_eps _ i (fun t0 => haveI t1 := tl t0; P (pj0 t0) (pj1 t1)) h (x0, x1, ())
theorem all_eps3 {A0 A1 A2 : Type} [i : Nonempty (A0 × A1 × A2 × Unit)] {P : A0 → A1 → A2 → Prop} (h : haveI t0 := eps i (fun t0 => haveI t1 := tl t0; haveI t2 := tl t1; P (pj0 t0) (pj1 t1) (pj2 t2)); haveI t1 := tl t0; haveI t2 := tl t1; P (pj0 t0) (pj1 t1) (pj2 t2)) : ∀ x0 x1 x2, P x0 x1 x2 := fun x0 x1 x2 => @all_eps _ i (fun t0 => haveI t1 := tl t0; haveI t2 := tl t1; P (pj0 t0) (pj1 t1) (pj2 t2)) h (x0, x1, x2, ())
theorem all_eps5 {A0 A1 A2 A3 A4 : Type} [i : Nonempty (A0 × A1 × A2 × A3 × A4 × Unit)] {P : A0 → A1 → A2 → A3 → A4 → Prop} (h : haveI t0 := eps i (fun t0 => haveI t1 := tl t0; haveI t2 := tl t1; haveI t3 := tl t2; haveI t4 := tl t3; P (pj0 t0) (pj1 t1) (pj2 t2) (pj3 t3) (pj4 t4)); haveI t1 := tl t0; haveI t2 := tl t1; haveI t3 := tl t2; haveI t4 := tl t3; P (pj0 t0) (pj1 t1) (pj2 t2) (pj3 t3) (pj4 t4)) : ∀ x0 x1 x2 x3 x4, P x0 x1 x2 x3 x4 := fun x0 x1 x2 x3 x4 => @all_eps _ i (fun t0 => haveI t1 := tl t0; haveI t2 := tl t1; haveI t3 := tl t2; haveI t4 := tl t3; P (pj0 t0) (pj1 t1) (pj2 t2) (pj3 t3) (pj4 t4)) h (x0, x1, x2, x3, x4, ())
theorem all_eps6 {A0 A1 A2 A3 A4 A5 : Type} [i : Nonempty (A0 × A1 × A2 × A3 × A4 × A5 × Unit)] {P : A0 → A1 → A2 → A3 → A4 → A5 → Prop} (h : haveI t0 := eps i (fun t0 => haveI t1 := tl t0; haveI t2 := tl t1; haveI t3 := tl t2; haveI t4 := tl t3; haveI t5 := tl t4; P (pj0 t0) (pj1 t1) (pj2 t2) (pj3 t3) (pj4 t4) (pj5 t5)); haveI t1 := tl t0; haveI t2 := tl t1; haveI t3 := tl t2; haveI t4 := tl t3; haveI t5 := tl t4; P (pj0 t0) (pj1 t1) (pj2 t2) (pj3 t3) (pj4 t4) (pj5 t5)) : ∀ x0 x1 x2 x3 x4 x5, P x0 x1 x2 x3 x4 x5 := fun x0 x1 x2 x3 x4 x5 => @all_eps _ i (fun t0 => haveI t1 := tl t0; haveI t2 := tl t1; haveI t3 := tl t2; haveI t4 := tl t3; haveI t5 := tl t4; P (pj0 t0) (pj1 t1) (pj2 t2) (pj3 t3) (pj4 t4) (pj5 t5)) h (x0, x1, x2, x3, x4, x5, ())
theorem all_eps8 {A0 A1 A2 A3 A4 A5 A6 A7 : Type} [i : Nonempty (A0 × A1 × A2 × A3 × A4 × A5 × A6 × A7 × Unit)] {P : A0 → A1 → A2 → A3 → A4 → A5 → A6 → A7 → Prop} (h : haveI t0 := eps i (fun t0 => haveI t1 := tl t0; haveI t2 := tl t1; haveI t3 := tl t2; haveI t4 := tl t3; haveI t5 := tl t4; haveI t6 := tl t5; haveI t7 := tl t6; P (pj0 t0) (pj1 t1) (pj2 t2) (pj3 t3) (pj4 t4) (pj5 t5) (pj6 t6) (pj7 t7)); haveI t1 := tl t0; haveI t2 := tl t1; haveI t3 := tl t2; haveI t4 := tl t3; haveI t5 := tl t4; haveI t6 := tl t5; haveI t7 := tl t6; P (pj0 t0) (pj1 t1) (pj2 t2) (pj3 t3) (pj4 t4) (pj5 t5) (pj6 t6) (pj7 t7)) : ∀ x0 x1 x2 x3 x4 x5 x6 x7, P x0 x1 x2 x3 x4 x5 x6 x7 := fun x0 x1 x2 x3 x4 x5 x6 x7 => @all_eps _ i (fun t0 => haveI t1 := tl t0; haveI t2 := tl t1; haveI t3 := tl t2; haveI t4 := tl t3; haveI t5 := tl t4; haveI t6 := tl t5; haveI t7 := tl t6; P (pj0 t0) (pj1 t1) (pj2 t2) (pj3 t3) (pj4 t4) (pj5 t5) (pj6 t6) (pj7 t7)) h (x0, x1, x2, x3, x4, x5, x6, x7, ())
theorem all_eps9 {A0 A1 A2 A3 A4 A5 A6 A7 A8 : Type} [i : Nonempty (A0 × A1 × A2 × A3 × A4 × A5 × A6 × A7 × A8 × Unit)] {P : A0 → A1 → A2 → A3 → A4 → A5 → A6 → A7 → A8 → Prop} (h : haveI t0 := eps i (fun t0 => haveI t1 := tl t0; haveI t2 := tl t1; haveI t3 := tl t2; haveI t4 := tl t3; haveI t5 := tl t4; haveI t6 := tl t5; haveI t7 := tl t6; haveI t8 := tl t7; P (pj0 t0) (pj1 t1) (pj2 t2) (pj3 t3) (pj4 t4) (pj5 t5) (pj6 t6) (pj7 t7) (pj8 t8)); haveI t1 := tl t0; haveI t2 := tl t1; haveI t3 := tl t2; haveI t4 := tl t3; haveI t5 := tl t4; haveI t6 := tl t5; haveI t7 := tl t6; haveI t8 := tl t7; P (pj0 t0) (pj1 t1) (pj2 t2) (pj3 t3) (pj4 t4) (pj5 t5) (pj6 t6) (pj7 t7) (pj8 t8)) : ∀ x0 x1 x2 x3 x4 x5 x6 x7 x8, P x0 x1 x2 x3 x4 x5 x6 x7 x8 := fun x0 x1 x2 x3 x4 x5 x6 x7 x8 => @all_eps _ i (fun t0 => haveI t1 := tl t0; haveI t2 := tl t1; haveI t3 := tl t2; haveI t4 := tl t3; haveI t5 := tl t4; haveI t6 := tl t5; haveI t7 := tl t6; haveI t8 := tl t7; P (pj0 t0) (pj1 t1) (pj2 t2) (pj3 t3) (pj4 t4) (pj5 t5) (pj6 t6) (pj7 t7) (pj8 t8)) h (x0, x1, x2, x3, x4, x5, x6, x7, x8, ())
theorem all_eps10 {A0 A1 A2 A3 A4 A5 A6 A7 A8 A9 : Type} [i : Nonempty (A0 × A1 × A2 × A3 × A4 × A5 × A6 × A7 × A8 × A9 × Unit)] {P : A0 → A1 → A2 → A3 → A4 → A5 → A6 → A7 → A8 → A9 → Prop} (h : haveI t0 := eps i (fun t0 => haveI t1 := tl t0; haveI t2 := tl t1; haveI t3 := tl t2; haveI t4 := tl t3; haveI t5 := tl t4; haveI t6 := tl t5; haveI t7 := tl t6; haveI t8 := tl t7; haveI t9 := tl t8; P (pj0 t0) (pj1 t1) (pj2 t2) (pj3 t3) (pj4 t4) (pj5 t5) (pj6 t6) (pj7 t7) (pj8 t8) (pj9 t9)); haveI t1 := tl t0; haveI t2 := tl t1; haveI t3 := tl t2; haveI t4 := tl t3; haveI t5 := tl t4; haveI t6 := tl t5; haveI t7 := tl t6; haveI t8 := tl t7; haveI t9 := tl t8; P (pj0 t0) (pj1 t1) (pj2 t2) (pj3 t3) (pj4 t4) (pj5 t5) (pj6 t6) (pj7 t7) (pj8 t8) (pj9 t9)) : ∀ x0 x1 x2 x3 x4 x5 x6 x7 x8 x9, P x0 x1 x2 x3 x4 x5 x6 x7 x8 x9 := fun x0 x1 x2 x3 x4 x5 x6 x7 x8 x9 => @all_eps _ i (fun t0 => haveI t1 := tl t0; haveI t2 := tl t1; haveI t3 := tl t2; haveI t4 := tl t3; haveI t5 := tl t4; haveI t6 := tl t5; haveI t7 := tl t6; haveI t8 := tl t7; haveI t9 := tl t8; P (pj0 t0) (pj1 t1) (pj2 t2) (pj3 t3) (pj4 t4) (pj5 t5) (pj6 t6) (pj7 t7) (pj8 t8) (pj9 t9)) h (x0, x1, x2, x3, x4, x5, x6, x7, x8, x9, ())
theorem all_eps12 {A0 A1 A2 A3 A4 A5 A6 A7 A8 A9 A10 A11 : Type} [i : Nonempty (A0 × A1 × A2 × A3 × A4 × A5 × A6 × A7 × A8 × A9 × A10 × A11 × Unit)] {P : A0 → A1 → A2 → A3 → A4 → A5 → A6 → A7 → A8 → A9 → A10 → A11 → Prop} (h : haveI t0 := eps i (fun t0 => haveI t1 := tl t0; haveI t2 := tl t1; haveI t3 := tl t2; haveI t4 := tl t3; haveI t5 := tl t4; haveI t6 := tl t5; haveI t7 := tl t6; haveI t8 := tl t7; haveI t9 := tl t8; haveI t10 := tl t9; haveI t11 := tl t10; P (pj0 t0) (pj1 t1) (pj2 t2) (pj3 t3) (pj4 t4) (pj5 t5) (pj6 t6) (pj7 t7) (pj8 t8) (pj9 t9) (pj10 t10) (pj11 t11)); haveI t1 := tl t0; haveI t2 := tl t1; haveI t3 := tl t2; haveI t4 := tl t3; haveI t5 := tl t4; haveI t6 := tl t5; haveI t7 := tl t6; haveI t8 := tl t7; haveI t9 := tl t8; haveI t10 := tl t9; haveI t11 := tl t10; P (pj0 t0) (pj1 t1) (pj2 t2) (pj3 t3) (pj4 t4) (pj5 t5) (pj6 t6) (pj7 t7) (pj8 t8) (pj9 t9) (pj10 t10) (pj11 t11)) : ∀ x0 x1 x2 x3 x4 x5 x6 x7 x8 x9 x10 x11, P x0 x1 x2 x3 x4 x5 x6 x7 x8 x9 x10 x11 := fun x0 x1 x2 x3 x4 x5 x6 x7 x8 x9 x10 x11 => @all_eps _ i (fun t0 => haveI t1 := tl t0; haveI t2 := tl t1; haveI t3 := tl t2; haveI t4 := tl t3; haveI t5 := tl t4; haveI t6 := tl t5; haveI t7 := tl t6; haveI t8 := tl t7; haveI t9 := tl t8; haveI t10 := tl t9; haveI t11 := tl t10; P (pj0 t0) (pj1 t1) (pj2 t2) (pj3 t3) (pj4 t4) (pj5 t5) (pj6 t6) (pj7 t7) (pj8 t8) (pj9 t9) (pj10 t10) (pj11 t11)) h (x0, x1, x2, x3, x4, x5, x6, x7, x8, x9, x10, x11, ())
theorem all_eps16 {A0 A1 A2 A3 A4 A5 A6 A7 A8 A9 A10 A11 A12 A13 A14 A15 : Type} [i : Nonempty (A0 × A1 × A2 × A3 × A4 × A5 × A6 × A7 × A8 × A9 × A10 × A11 × A12 × A13 × A14 × A15 × Unit)] {P : A0 → A1 → A2 → A3 → A4 → A5 → A6 → A7 → A8 → A9 → A10 → A11 → A12 → A13 → A14 → A15 → Prop} (h : haveI t0 := eps i (fun t0 => haveI t1 := tl t0; haveI t2 := tl t1; haveI t3 := tl t2; haveI t4 := tl t3; haveI t5 := tl t4; haveI t6 := tl t5; haveI t7 := tl t6; haveI t8 := tl t7; haveI t9 := tl t8; haveI t10 := tl t9; haveI t11 := tl t10; haveI t12 := tl t11; haveI t13 := tl t12; haveI t14 := tl t13; haveI t15 := tl t14; P (pj0 t0) (pj1 t1) (pj2 t2) (pj3 t3) (pj4 t4) (pj5 t5) (pj6 t6) (pj7 t7) (pj8 t8) (pj9 t9) (pj10 t10) (pj11 t11) (pj12 t12) (pj13 t13) (pj14 t14) (pj15 t15)); haveI t1 := tl t0; haveI t2 := tl t1; haveI t3 := tl t2; haveI t4 := tl t3; haveI t5 := tl t4; haveI t6 := tl t5; haveI t7 := tl t6; haveI t8 := tl t7; haveI t9 := tl t8; haveI t10 := tl t9; haveI t11 := tl t10; haveI t12 := tl t11; haveI t13 := tl t12; haveI t14 := tl t13; haveI t15 := tl t14; P (pj0 t0) (pj1 t1) (pj2 t2) (pj3 t3) (pj4 t4) (pj5 t5) (pj6 t6) (pj7 t7) (pj8 t8) (pj9 t9) (pj10 t10) (pj11 t11) (pj12 t12) (pj13 t13) (pj14 t14) (pj15 t15)) : ∀ x0 x1 x2 x3 x4 x5 x6 x7 x8 x9 x10 x11 x12 x13 x14 x15, P x0 x1 x2 x3 x4 x5 x6 x7 x8 x9 x10 x11 x12 x13 x14 x15 := fun x0 x1 x2 x3 x4 x5 x6 x7 x8 x9 x10 x11 x12 x13 x14 x15 => @all_eps _ i (fun t0 => haveI t1 := tl t0; haveI t2 := tl t1; haveI t3 := tl t2; haveI t4 := tl t3; haveI t5 := tl t4; haveI t6 := tl t5; haveI t7 := tl t6; haveI t8 := tl t7; haveI t9 := tl t8; haveI t10 := tl t9; haveI t11 := tl t10; haveI t12 := tl t11; haveI t13 := tl t12; haveI t14 := tl t13; haveI t15 := tl t14; P (pj0 t0) (pj1 t1) (pj2 t2) (pj3 t3) (pj4 t4) (pj5 t5) (pj6 t6) (pj7 t7) (pj8 t8) (pj9 t9) (pj10 t10) (pj11 t11) (pj12 t12) (pj13 t13) (pj14 t14) (pj15 t15)) h (x0, x1, x2, x3, x4, x5, x6, x7, x8, x9, x10, x11, x12, x13, x14, x15, ())
theorem all_eps21 {A0 A1 A2 A3 A4 A5 A6 A7 A8 A9 A10 A11 A12 A13 A14 A15 A16 A17 A18 A19 A20 : Type} [i : Nonempty (A0 × A1 × A2 × A3 × A4 × A5 × A6 × A7 × A8 × A9 × A10 × A11 × A12 × A13 × A14 × A15 × A16 × A17 × A18 × A19 × A20 × Unit)] {P : A0 → A1 → A2 → A3 → A4 → A5 → A6 → A7 → A8 → A9 → A10 → A11 → A12 → A13 → A14 → A15 → A16 → A17 → A18 → A19 → A20 → Prop} (h : haveI t0 := eps i (fun t0 => haveI t1 := tl t0; haveI t2 := tl t1; haveI t3 := tl t2; haveI t4 := tl t3; haveI t5 := tl t4; haveI t6 := tl t5; haveI t7 := tl t6; haveI t8 := tl t7; haveI t9 := tl t8; haveI t10 := tl t9; haveI t11 := tl t10; haveI t12 := tl t11; haveI t13 := tl t12; haveI t14 := tl t13; haveI t15 := tl t14; haveI t16 := tl t15; haveI t17 := tl t16; haveI t18 := tl t17; haveI t19 := tl t18; haveI t20 := tl t19; P (pj0 t0) (pj1 t1) (pj2 t2) (pj3 t3) (pj4 t4) (pj5 t5) (pj6 t6) (pj7 t7) (pj8 t8) (pj9 t9) (pj10 t10) (pj11 t11) (pj12 t12) (pj13 t13) (pj14 t14) (pj15 t15) (pj16 t16) (pj17 t17) (pj18 t18) (pj19 t19) (pj20 t20)); haveI t1 := tl t0; haveI t2 := tl t1; haveI t3 := tl t2; haveI t4 := tl t3; haveI t5 := tl t4; haveI t6 := tl t5; haveI t7 := tl t6; haveI t8 := tl t7; haveI t9 := tl t8; haveI t10 := tl t9; haveI t11 := tl t10; haveI t12 := tl t11; haveI t13 := tl t12; haveI t14 := tl t13; haveI t15 := tl t14; haveI t16 := tl t15; haveI t17 := tl t16; haveI t18 := tl t17; haveI t19 := tl t18; haveI t20 := tl t19; P (pj0 t0) (pj1 t1) (pj2 t2) (pj3 t3) (pj4 t4) (pj5 t5) (pj6 t6) (pj7 t7) (pj8 t8) (pj9 t9) (pj10 t10) (pj11 t11) (pj12 t12) (pj13 t13) (pj14 t14) (pj15 t15) (pj16 t16) (pj17 t17) (pj18 t18) (pj19 t19) (pj20 t20)) : ∀ x0 x1 x2 x3 x4 x5 x6 x7 x8 x9 x10 x11 x12 x13 x14 x15 x16 x17 x18 x19 x20, P x0 x1 x2 x3 x4 x5 x6 x7 x8 x9 x10 x11 x12 x13 x14 x15 x16 x17 x18 x19 x20 := fun x0 x1 x2 x3 x4 x5 x6 x7 x8 x9 x10 x11 x12 x13 x14 x15 x16 x17 x18 x19 x20 => @all_eps _ i (fun t0 => haveI t1 := tl t0; haveI t2 := tl t1; haveI t3 := tl t2; haveI t4 := tl t3; haveI t5 := tl t4; haveI t6 := tl t5; haveI t7 := tl t6; haveI t8 := tl t7; haveI t9 := tl t8; haveI t10 := tl t9; haveI t11 := tl t10; haveI t12 := tl t11; haveI t13 := tl t12; haveI t14 := tl t13; haveI t15 := tl t14; haveI t16 := tl t15; haveI t17 := tl t16; haveI t18 := tl t17; haveI t19 := tl t18; haveI t20 := tl t19; P (pj0 t0) (pj1 t1) (pj2 t2) (pj3 t3) (pj4 t4) (pj5 t5) (pj6 t6) (pj7 t7) (pj8 t8) (pj9 t9) (pj10 t10) (pj11 t11) (pj12 t12) (pj13 t13) (pj14 t14) (pj15 t15) (pj16 t16) (pj17 t17) (pj18 t18) (pj19 t19) (pj20 t20)) h (x0, x1, x2, x3, x4, x5, x6, x7, x8, x9, x10, x11, x12, x13, x14, x15, x16, x17, x18, x19, x20, ())
theorem all_eps22 {A0 A1 A2 A3 A4 A5 A6 A7 A8 A9 A10 A11 A12 A13 A14 A15 A16 A17 A18 A19 A20 A21 : Type} [i : Nonempty (A0 × A1 × A2 × A3 × A4 × A5 × A6 × A7 × A8 × A9 × A10 × A11 × A12 × A13 × A14 × A15 × A16 × A17 × A18 × A19 × A20 × A21 × Unit)] {P : A0 → A1 → A2 → A3 → A4 → A5 → A6 → A7 → A8 → A9 → A10 → A11 → A12 → A13 → A14 → A15 → A16 → A17 → A18 → A19 → A20 → A21 → Prop} (h : haveI t0 := eps i (fun t0 => haveI t1 := tl t0; haveI t2 := tl t1; haveI t3 := tl t2; haveI t4 := tl t3; haveI t5 := tl t4; haveI t6 := tl t5; haveI t7 := tl t6; haveI t8 := tl t7; haveI t9 := tl t8; haveI t10 := tl t9; haveI t11 := tl t10; haveI t12 := tl t11; haveI t13 := tl t12; haveI t14 := tl t13; haveI t15 := tl t14; haveI t16 := tl t15; haveI t17 := tl t16; haveI t18 := tl t17; haveI t19 := tl t18; haveI t20 := tl t19; haveI t21 := tl t20; P (pj0 t0) (pj1 t1) (pj2 t2) (pj3 t3) (pj4 t4) (pj5 t5) (pj6 t6) (pj7 t7) (pj8 t8) (pj9 t9) (pj10 t10) (pj11 t11) (pj12 t12) (pj13 t13) (pj14 t14) (pj15 t15) (pj16 t16) (pj17 t17) (pj18 t18) (pj19 t19) (pj20 t20) (pj21 t21)); haveI t1 := tl t0; haveI t2 := tl t1; haveI t3 := tl t2; haveI t4 := tl t3; haveI t5 := tl t4; haveI t6 := tl t5; haveI t7 := tl t6; haveI t8 := tl t7; haveI t9 := tl t8; haveI t10 := tl t9; haveI t11 := tl t10; haveI t12 := tl t11; haveI t13 := tl t12; haveI t14 := tl t13; haveI t15 := tl t14; haveI t16 := tl t15; haveI t17 := tl t16; haveI t18 := tl t17; haveI t19 := tl t18; haveI t20 := tl t19; haveI t21 := tl t20; P (pj0 t0) (pj1 t1) (pj2 t2) (pj3 t3) (pj4 t4) (pj5 t5) (pj6 t6) (pj7 t7) (pj8 t8) (pj9 t9) (pj10 t10) (pj11 t11) (pj12 t12) (pj13 t13) (pj14 t14) (pj15 t15) (pj16 t16) (pj17 t17) (pj18 t18) (pj19 t19) (pj20 t20) (pj21 t21)) : ∀ x0 x1 x2 x3 x4 x5 x6 x7 x8 x9 x10 x11 x12 x13 x14 x15 x16 x17 x18 x19 x20 x21, P x0 x1 x2 x3 x4 x5 x6 x7 x8 x9 x10 x11 x12 x13 x14 x15 x16 x17 x18 x19 x20 x21 := fun x0 x1 x2 x3 x4 x5 x6 x7 x8 x9 x10 x11 x12 x13 x14 x15 x16 x17 x18 x19 x20 x21 => @all_eps _ i (fun t0 => haveI t1 := tl t0; haveI t2 := tl t1; haveI t3 := tl t2; haveI t4 := tl t3; haveI t5 := tl t4; haveI t6 := tl t5; haveI t7 := tl t6; haveI t8 := tl t7; haveI t9 := tl t8; haveI t10 := tl t9; haveI t11 := tl t10; haveI t12 := tl t11; haveI t13 := tl t12; haveI t14 := tl t13; haveI t15 := tl t14; haveI t16 := tl t15; haveI t17 := tl t16; haveI t18 := tl t17; haveI t19 := tl t18; haveI t20 := tl t19; haveI t21 := tl t20; P (pj0 t0) (pj1 t1) (pj2 t2) (pj3 t3) (pj4 t4) (pj5 t5) (pj6 t6) (pj7 t7) (pj8 t8) (pj9 t9) (pj10 t10) (pj11 t11) (pj12 t12) (pj13 t13) (pj14 t14) (pj15 t15) (pj16 t16) (pj17 t17) (pj18 t18) (pj19 t19) (pj20 t20) (pj21 t21)) h (x0, x1, x2, x3, x4, x5, x6, x7, x8, x9, x10, x11, x12, x13, x14, x15, x16, x17, x18, x19, x20, x21, ())
theorem all_eps24 {A0 A1 A2 A3 A4 A5 A6 A7 A8 A9 A10 A11 A12 A13 A14 A15 A16 A17 A18 A19 A20 A21 A22 A23 : Type} [i : Nonempty (A0 × A1 × A2 × A3 × A4 × A5 × A6 × A7 × A8 × A9 × A10 × A11 × A12 × A13 × A14 × A15 × A16 × A17 × A18 × A19 × A20 × A21 × A22 × A23 × Unit)] {P : A0 → A1 → A2 → A3 → A4 → A5 → A6 → A7 → A8 → A9 → A10 → A11 → A12 → A13 → A14 → A15 → A16 → A17 → A18 → A19 → A20 → A21 → A22 → A23 → Prop} (h : haveI t0 := eps i (fun t0 => haveI t1 := tl t0; haveI t2 := tl t1; haveI t3 := tl t2; haveI t4 := tl t3; haveI t5 := tl t4; haveI t6 := tl t5; haveI t7 := tl t6; haveI t8 := tl t7; haveI t9 := tl t8; haveI t10 := tl t9; haveI t11 := tl t10; haveI t12 := tl t11; haveI t13 := tl t12; haveI t14 := tl t13; haveI t15 := tl t14; haveI t16 := tl t15; haveI t17 := tl t16; haveI t18 := tl t17; haveI t19 := tl t18; haveI t20 := tl t19; haveI t21 := tl t20; haveI t22 := tl t21; haveI t23 := tl t22; P (pj0 t0) (pj1 t1) (pj2 t2) (pj3 t3) (pj4 t4) (pj5 t5) (pj6 t6) (pj7 t7) (pj8 t8) (pj9 t9) (pj10 t10) (pj11 t11) (pj12 t12) (pj13 t13) (pj14 t14) (pj15 t15) (pj16 t16) (pj17 t17) (pj18 t18) (pj19 t19) (pj20 t20) (pj21 t21) (pj22 t22) (pj23 t23)); haveI t1 := tl t0; haveI t2 := tl t1; haveI t3 := tl t2; haveI t4 := tl t3; haveI t5 := tl t4; haveI t6 := tl t5; haveI t7 := tl t6; haveI t8 := tl t7; haveI t9 := tl t8; haveI t10 := tl t9; haveI t11 := tl t10; haveI t12 := tl t11; haveI t13 := tl t12; haveI t14 := tl t13; haveI t15 := tl t14; haveI t16 := tl t15; haveI t17 := tl t16; haveI t18 := tl t17; haveI t19 := tl t18; haveI t20 := tl t19; haveI t21 := tl t20; haveI t22 := tl t21; haveI t23 := tl t22; P (pj0 t0) (pj1 t1) (pj2 t2) (pj3 t3) (pj4 t4) (pj5 t5) (pj6 t6) (pj7 t7) (pj8 t8) (pj9 t9) (pj10 t10) (pj11 t11) (pj12 t12) (pj13 t13) (pj14 t14) (pj15 t15) (pj16 t16) (pj17 t17) (pj18 t18) (pj19 t19) (pj20 t20) (pj21 t21) (pj22 t22) (pj23 t23)) : ∀ x0 x1 x2 x3 x4 x5 x6 x7 x8 x9 x10 x11 x12 x13 x14 x15 x16 x17 x18 x19 x20 x21 x22 x23, P x0 x1 x2 x3 x4 x5 x6 x7 x8 x9 x10 x11 x12 x13 x14 x15 x16 x17 x18 x19 x20 x21 x22 x23 := fun x0 x1 x2 x3 x4 x5 x6 x7 x8 x9 x10 x11 x12 x13 x14 x15 x16 x17 x18 x19 x20 x21 x22 x23 => @all_eps _ i (fun t0 => haveI t1 := tl t0; haveI t2 := tl t1; haveI t3 := tl t2; haveI t4 := tl t3; haveI t5 := tl t4; haveI t6 := tl t5; haveI t7 := tl t6; haveI t8 := tl t7; haveI t9 := tl t8; haveI t10 := tl t9; haveI t11 := tl t10; haveI t12 := tl t11; haveI t13 := tl t12; haveI t14 := tl t13; haveI t15 := tl t14; haveI t16 := tl t15; haveI t17 := tl t16; haveI t18 := tl t17; haveI t19 := tl t18; haveI t20 := tl t19; haveI t21 := tl t20; haveI t22 := tl t21; haveI t23 := tl t22; P (pj0 t0) (pj1 t1) (pj2 t2) (pj3 t3) (pj4 t4) (pj5 t5) (pj6 t6) (pj7 t7) (pj8 t8) (pj9 t9) (pj10 t10) (pj11 t11) (pj12 t12) (pj13 t13) (pj14 t14) (pj15 t15) (pj16 t16) (pj17 t17) (pj18 t18) (pj19 t19) (pj20 t20) (pj21 t21) (pj22 t22) (pj23 t23)) h (x0, x1, x2, x3, x4, x5, x6, x7, x8, x9, x10, x11, x12, x13, x14, x15, x16, x17, x18, x19, x20, x21, x22, x23, ())
theorem ex_elim5 {A0 A1 A2 A3 A4 : Type} {H : A0 → A1 → A2 → A3 → A4 → Prop} {G : Prop} (h : ∃ x0 x1 x2 x3 x4, H x0 x1 x2 x3 x4) (f : ∀ x0 x1 x2 x3 x4, H x0 x1 x2 x3 x4 → G) : G := let ⟨x0, x1, x2, x3, x4, y⟩ := h; f x0 x1 x2 x3 x4 y
theorem ex_elim10 {A0 A1 A2 A3 A4 A5 A6 A7 A8 A9 : Type} {H : A0 → A1 → A2 → A3 → A4 → A5 → A6 → A7 → A8 → A9 → Prop} {G : Prop} (h : ∃ x0 x1 x2 x3 x4 x5 x6 x7 x8 x9, H x0 x1 x2 x3 x4 x5 x6 x7 x8 x9) (f : ∀ x0 x1 x2 x3 x4 x5 x6 x7 x8 x9, H x0 x1 x2 x3 x4 x5 x6 x7 x8 x9 → G) : G := let ⟨x0, x1, x2, x3, x4, x5, x6, x7, x8, x9, y⟩ := h; f x0 x1 x2 x3 x4 x5 x6 x7 x8 x9 y
theorem ex_elim12 {A0 A1 A2 A3 A4 A5 A6 A7 A8 A9 A10 A11 : Type} {H : A0 → A1 → A2 → A3 → A4 → A5 → A6 → A7 → A8 → A9 → A10 → A11 → Prop} {G : Prop} (h : ∃ x0 x1 x2 x3 x4 x5 x6 x7 x8 x9 x10 x11, H x0 x1 x2 x3 x4 x5 x6 x7 x8 x9 x10 x11) (f : ∀ x0 x1 x2 x3 x4 x5 x6 x7 x8 x9 x10 x11, H x0 x1 x2 x3 x4 x5 x6 x7 x8 x9 x10 x11 → G) : G := let ⟨x0, x1, x2, x3, x4, x5, x6, x7, x8, x9, x10, x11, y⟩ := h; f x0 x1 x2 x3 x4 x5 x6 x7 x8 x9 x10 x11 y
theorem cj0 { p q : Prop} (h : p ∧ q) : p := h.1
theorem cj1 {p0 p q : Prop} (h : p0 ∧ p ∧ q) : p := h.2.1
theorem cl1 {p0 p : Prop} (h : p0 ∧ p) : p := h.2
theorem cj2 {p0 p1 p q : Prop} (h : p0 ∧ p1 ∧ p ∧ q) : p := h.2.2.1
theorem cl2 {p0 p1 p : Prop} (h : p0 ∧ p1 ∧ p) : p := h.2.2
theorem cj3 {p0 p1 p2 p q : Prop} (h : p0 ∧ p1 ∧ p2 ∧ p ∧ q) : p := h.2.2.2.1
theorem cl3 {p0 p1 p2 p : Prop} (h : p0 ∧ p1 ∧ p2 ∧ p) : p := h.2.2.2
theorem cj4 {p0 p1 p2 p3 p q : Prop} (h : p0 ∧ p1 ∧ p2 ∧ p3 ∧ p ∧ q) : p := h.2.2.2.2.1
theorem cl4 {p0 p1 p2 p3 p : Prop} (h : p0 ∧ p1 ∧ p2 ∧ p3 ∧ p) : p := h.2.2.2.2
theorem cj5 {p0 p1 p2 p3 p4 p q : Prop} (h : p0 ∧ p1 ∧ p2 ∧ p3 ∧ p4 ∧ p ∧ q) : p := h.2.2.2.2.2.1
theorem cl5 {p0 p1 p2 p3 p4 p : Prop} (h : p0 ∧ p1 ∧ p2 ∧ p3 ∧ p4 ∧ p) : p := h.2.2.2.2.2
theorem cj6 {p0 p1 p2 p3 p4 p5 p q : Prop} (h : p0 ∧ p1 ∧ p2 ∧ p3 ∧ p4 ∧ p5 ∧ p ∧ q) : p := h.2.2.2.2.2.2.1
theorem cl6 {p0 p1 p2 p3 p4 p5 p : Prop} (h : p0 ∧ p1 ∧ p2 ∧ p3 ∧ p4 ∧ p5 ∧ p) : p := h.2.2.2.2.2.2
theorem cj7 {p0 p1 p2 p3 p4 p5 p6 p q : Prop} (h : p0 ∧ p1 ∧ p2 ∧ p3 ∧ p4 ∧ p5 ∧ p6 ∧ p ∧ q) : p := h.2.2.2.2.2.2.2.1
theorem cl7 {p0 p1 p2 p3 p4 p5 p6 p : Prop} (h : p0 ∧ p1 ∧ p2 ∧ p3 ∧ p4 ∧ p5 ∧ p6 ∧ p) : p := h.2.2.2.2.2.2.2
theorem cj8 {p0 p1 p2 p3 p4 p5 p6 p7 p q : Prop} (h : p0 ∧ p1 ∧ p2 ∧ p3 ∧ p4 ∧ p5 ∧ p6 ∧ p7 ∧ p ∧ q) : p := h.2.2.2.2.2.2.2.2.1
theorem cl8 {p0 p1 p2 p3 p4 p5 p6 p7 p : Prop} (h : p0 ∧ p1 ∧ p2 ∧ p3 ∧ p4 ∧ p5 ∧ p6 ∧ p7 ∧ p) : p := h.2.2.2.2.2.2.2.2
theorem cj9 {p0 p1 p2 p3 p4 p5 p6 p7 p8 p q : Prop} (h : p0 ∧ p1 ∧ p2 ∧ p3 ∧ p4 ∧ p5 ∧ p6 ∧ p7 ∧ p8 ∧ p ∧ q) : p := h.2.2.2.2.2.2.2.2.2.1
theorem cl9 {p0 p1 p2 p3 p4 p5 p6 p7 p8 p : Prop} (h : p0 ∧ p1 ∧ p2 ∧ p3 ∧ p4 ∧ p5 ∧ p6 ∧ p7 ∧ p8 ∧ p) : p := h.2.2.2.2.2.2.2.2.2
theorem cj10 {p0 p1 p2 p3 p4 p5 p6 p7 p8 p9 p q : Prop} (h : p0 ∧ p1 ∧ p2 ∧ p3 ∧ p4 ∧ p5 ∧ p6 ∧ p7 ∧ p8 ∧ p9 ∧ p ∧ q) : p := h.2.2.2.2.2.2.2.2.2.2.1
theorem cl10 {p0 p1 p2 p3 p4 p5 p6 p7 p8 p9 p : Prop} (h : p0 ∧ p1 ∧ p2 ∧ p3 ∧ p4 ∧ p5 ∧ p6 ∧ p7 ∧ p8 ∧ p9 ∧ p) : p := h.2.2.2.2.2.2.2.2.2.2
theorem cj11 {p0 p1 p2 p3 p4 p5 p6 p7 p8 p9 p10 p q : Prop} (h : p0 ∧ p1 ∧ p2 ∧ p3 ∧ p4 ∧ p5 ∧ p6 ∧ p7 ∧ p8 ∧ p9 ∧ p10 ∧ p ∧ q) : p := h.2.2.2.2.2.2.2.2.2.2.2.1
theorem cl11 {p0 p1 p2 p3 p4 p5 p6 p7 p8 p9 p10 p : Prop} (h : p0 ∧ p1 ∧ p2 ∧ p3 ∧ p4 ∧ p5 ∧ p6 ∧ p7 ∧ p8 ∧ p9 ∧ p10 ∧ p) : p := h.2.2.2.2.2.2.2.2.2.2.2
theorem cj12 {p0 p1 p2 p3 p4 p5 p6 p7 p8 p9 p10 p11 p q : Prop} (h : p0 ∧ p1 ∧ p2 ∧ p3 ∧ p4 ∧ p5 ∧ p6 ∧ p7 ∧ p8 ∧ p9 ∧ p10 ∧ p11 ∧ p ∧ q) : p := h.2.2.2.2.2.2.2.2.2.2.2.2.1
theorem cl12 {p0 p1 p2 p3 p4 p5 p6 p7 p8 p9 p10 p11 p : Prop} (h : p0 ∧ p1 ∧ p2 ∧ p3 ∧ p4 ∧ p5 ∧ p6 ∧ p7 ∧ p8 ∧ p9 ∧ p10 ∧ p11 ∧ p) : p := h.2.2.2.2.2.2.2.2.2.2.2.2
theorem rm0 {a m n : Nat} (h : a + m < n) : a < n := Nat.lt_of_le_of_lt (Nat.le_add_right a m) h
theorem rm1 {a m n k0 : Nat} (h : a + m < n) (hk : Nat.ble (k0) m = true) : a + k0 < n := by have := Nat.le_of_ble_eq_true hk; omega
theorem rm2 {a m n k0 k1 : Nat} (h : a + m < n) (hk : Nat.ble (k0 + k1) m = true) : a + k0 + k1 < n := by have := Nat.le_of_ble_eq_true hk; omega
theorem rm3 {a m n k0 k1 k2 : Nat} (h : a + m < n) (hk : Nat.ble (k0 + k1 + k2) m = true) : a + k0 + k1 + k2 < n := by have := Nat.le_of_ble_eq_true hk; omega
theorem pow2_nn (n : Nat) : (0 : Int) ≤ 2 ^ n := Int.le_of_lt (Int.pow_pos (by decide))
/-- a def's parts, as the given text holds them -/
def defParts : List Stmt → Nat → Option (Arguments × List Stmt × Scope)
  | [], _ => none
  | .FunctionDef _ a b _ _ _ c _ _ _ :: _, 0 => some (a, b, c)
  | _ :: _, 0 => none
  | _ :: r, n + 1 => defParts r n
/-- what the walk asks of the heap behind the top -/
noncomputable def hd.heap_39 : Params → Frag := fun P => (fun (a0 : Arguments) (b0 : List Stmt) (c0 : Scope) (a1 : Arguments) (b1 : List Stmt) (c1 : Scope) (a2 : Arguments) (b2 : List Stmt) (c2 : Scope) (a3 : Arguments) (b3 : List Stmt) (c3 : Scope) (a4 : Arguments) (b4 : List Stmt) (c4 : Scope) (a5 : Arguments) (b5 : List Stmt) (c5 : Scope) (a6 : Arguments) (b6 : List Stmt) (c6 : Scope) (a7 : Arguments) (b7 : List Stmt) (c7 : Scope) (a8 : Arguments) (b8 : List Stmt) (c8 : Scope) (a9 : Arguments) (b9 : List Stmt) (c9 : Scope) (a10 : Arguments) (b10 : List Stmt) (c10 : Scope) (a11 : Arguments) (b11 : List Stmt) (c11 : Scope) (a12 : Arguments) (b12 : List Stmt) (c12 : Scope) (a13 : Arguments) (b13 : List Stmt) (c13 : Scope) (a14 : Arguments) (b14 : List Stmt) (c14 : Scope) (a15 : Arguments) (b15 : List Stmt) (c15 : Scope) (a16 : Arguments) (b16 : List Stmt) (c16 : Scope) (a17 : Arguments) (b17 : List Stmt) (c17 : Scope) (a18 : Arguments) (b18 : List Stmt) (c18 : Scope) (a19 : Arguments) (b19 : List Stmt) (c19 : Scope) (a20 : Arguments) (b20 : List Stmt) (c20 : Scope) (a21 : Arguments) (b21 : List Stmt) (c21 : Scope) (a22 : Arguments) (b22 : List Stmt) (c22 : Scope) (a23 : Arguments) (b23 : List Stmt) (c23 : Scope) (a24 : Arguments) (b24 : List Stmt) (c24 : Scope) (a25 : Arguments) (b25 : List Stmt) (c25 : Scope) (a26 : Arguments) (b26 : List Stmt) (c26 : Scope) (a27 : Arguments) (b27 : List Stmt) (c27 : Scope) (_ : defParts PySem.Challenge.pw_uk0004_01.main.body 1 = some (a0, b0, c0)) (_ : defParts PySem.Challenge.pw_uk0004_01.main.body 2 = some (a1, b1, c1)) (_ : defParts PySem.Challenge.pw_uk0004_01.main.body 3 = some (a2, b2, c2)) (_ : defParts PySem.Challenge.pw_uk0004_01.main.body 4 = some (a3, b3, c3)) (_ : defParts PySem.Challenge.pw_uk0004_01.main.body 6 = some (a4, b4, c4)) (_ : defParts PySem.Challenge.pw_uk0004_01.main.body 7 = some (a5, b5, c5)) (_ : defParts PySem.Challenge.pw_uk0004_01.main.body 8 = some (a6, b6, c6)) (_ : defParts PySem.Challenge.pw_uk0004_01.main.body 9 = some (a7, b7, c7)) (_ : defParts PySem.Challenge.pw_uk0004_01.main.body 10 = some (a8, b8, c8)) (_ : defParts PySem.Challenge.pw_uk0004_01.main.body 11 = some (a9, b9, c9)) (_ : defParts PySem.Challenge.pw_uk0004_01.main.body 12 = some (a10, b10, c10)) (_ : defParts PySem.Challenge.pw_uk0004_01.main.body 13 = some (a11, b11, c11)) (_ : defParts PySem.Challenge.pw_uk0004_01.main.body 14 = some (a12, b12, c12)) (_ : defParts PySem.Challenge.pw_uk0004_01.main.body 15 = some (a13, b13, c13)) (_ : defParts PySem.Challenge.pw_uk0004_01.main.body 67 = some (a14, b14, c14)) (_ : defParts PySem.Challenge.pw_uk0004_01.main.body 69 = some (a15, b15, c15)) (_ : defParts PySem.Challenge.pw_uk0004_01.main.body 70 = some (a16, b16, c16)) (_ : defParts PySem.Challenge.pw_uk0004_01.main.body 71 = some (a17, b17, c17)) (_ : defParts PySem.Challenge.pw_uk0004_01.main.body 72 = some (a18, b18, c18)) (_ : defParts PySem.Challenge.pw_uk0004_01.main.body 73 = some (a19, b19, c19)) (_ : defParts PySem.Challenge.pw_uk0004_01.main.body 74 = some (a20, b20, c20)) (_ : defParts PySem.Challenge.pw_uk0004_01.main.body 75 = some (a21, b21, c21)) (_ : defParts PySem.Challenge.pw_uk0004_01.main.body 76 = some (a22, b22, c22)) (_ : defParts PySem.Challenge.pw_uk0004_01.main.body 77 = some (a23, b23, c23)) (_ : defParts PySem.Challenge.pw_uk0004_01.main.body 78 = some (a24, b24, c24)) (_ : defParts PySem.Challenge.pw_uk0004_01.main.body 79 = some (a25, b25, c25)) (_ : defParts PySem.Challenge.pw_uk0004_01.main.body 80 = some (a26, b26, c26)) (_ : defParts PySem.Challenge.pw_uk0004_01.main.body 81 = some (a27, b27, c27)) =>
  ((nat_lit 2,⟨.none,(@none Nat),(.dict #[] (0:Nat)),#[]⟩) ::
   (nat_lit 3,⟨(.type "dict"),(@none Nat),(.dict (List.toArray (⟨(PyData.keyHash P "__name__"),(.str "__name__" (165:Nat)),(.str "law_uk0004_01" (532:Nat))⟩::⟨(PyData.keyHash P "__doc__"),(.str "__doc__" (166:Nat)),.none⟩::⟨(PyData.keyHash P "__package__"),(.str "__package__" (167:Nat)),.none⟩::⟨(PyData.keyHash P "__loader__"),(.str "__loader__" (168:Nat)),(.builtin "__main__.__loader__#opaque")⟩::⟨(PyData.keyHash P "__spec__"),(.str "__spec__" (169:Nat)),.none⟩::⟨(PyData.keyHash P "__annotations__"),(.str "__annotations__" (170:Nat)),(.ref (6:Nat))⟩::⟨(PyData.keyHash P "__builtins__"),(.str "__builtins__" (171:Nat)),(.ref (4:Nat))⟩::⟨(PyData.keyHash P "__file__"),(.str "__file__" (173:Nat)),(.str "/claim/cut.py" (172:Nat))⟩::⟨(PyData.keyHash P "__cached__"),(.str "__cached__" (174:Nat)),.none⟩::⟨(PyData.keyHash P "insort_right"),(.str "insort_right" (201:Nat)),(.ref (23:Nat))⟩::⟨(PyData.keyHash P "bisect_right"),(.str "bisect_right" (215:Nat)),(.ref (32:Nat))⟩::⟨(PyData.keyHash P "insort_left"),(.str "insort_left" (228:Nat)),(.ref (41:Nat))⟩::⟨(PyData.keyHash P "bisect_left"),(.str "bisect_left" (242:Nat)),(.ref (50:Nat))⟩::⟨(PyData.keyHash P "add"),(.str "add" (252:Nat)),(.ref (57:Nat))⟩::⟨(PyData.keyHash P "and_"),(.str "and_" (260:Nat)),(.ref (64:Nat))⟩::⟨(PyData.keyHash P "lshift"),(.str "lshift" (268:Nat)),(.ref (71:Nat))⟩::⟨(PyData.keyHash P "or_"),(.str "or_" (276:Nat)),(.ref (78:Nat))⟩::⟨(PyData.keyHash P "rshift"),(.str "rshift" (284:Nat)),(.ref (85:Nat))⟩::⟨(PyData.keyHash P "sub"),(.str "sub" (292:Nat)),(.ref (92:Nat))⟩::⟨(PyData.keyHash P "concat"),(.str "concat" (301:Nat)),(.ref (99:Nat))⟩::⟨(PyData.keyHash P "contains"),(.str "contains" (309:Nat)),(.ref (106:Nat))⟩::⟨(PyData.keyHash P "getitem"),(.str "getitem" (317:Nat)),(.ref (113:Nat))⟩::⟨(PyData.keyHash P "indexOf"),(.str "indexOf" (327:Nat)),(.ref (120:Nat))⟩::⟨(PyData.keyHash P "ENDMARKER"),(.str "ENDMARKER" (331:Nat)),(.int 0 (330:Nat))⟩::⟨(PyData.keyHash P "LPAR"),(.str "LPAR" (333:Nat)),(.int 7 (332:Nat))⟩::⟨(PyData.keyHash P "RPAR"),(.str "RPAR" (335:Nat)),(.int 8 (334:Nat))⟩::⟨(PyData.keyHash P "LSQB"),(.str "LSQB" (337:Nat)),(.int 9 (336:Nat))⟩::⟨(PyData.keyHash P "RSQB"),(.str "RSQB" (339:Nat)),(.int 10 (338:Nat))⟩::⟨(PyData.keyHash P "COLON"),(.str "COLON" (341:Nat)),(.int 11 (340:Nat))⟩::⟨(PyData.keyHash P "COMMA"),(.str "COMMA" (343:Nat)),(.int 12 (342:Nat))⟩::⟨(PyData.keyHash P "SEMI"),(.str "SEMI" (345:Nat)),(.int 13 (344:Nat))⟩::⟨(PyData.keyHash P "PLUS"),(.str "PLUS" (347:Nat)),(.int 14 (346:Nat))⟩::⟨(PyData.keyHash P "MINUS"),(.str "MINUS" (349:Nat)),(.int 15 (348:Nat))⟩::⟨(PyData.keyHash P "STAR"),(.str "STAR" (351:Nat)),(.int 16 (350:Nat))⟩::⟨(PyData.keyHash P "SLASH"),(.str "SLASH" (353:Nat)),(.int 17 (352:Nat))⟩::⟨(PyData.keyHash P "VBAR"),(.str "VBAR" (355:Nat)),(.int 18 (354:Nat))⟩::⟨(PyData.keyHash P "AMPER"),(.str "AMPER" (357:Nat)),(.int 19 (356:Nat))⟩::⟨(PyData.keyHash P "LESS"),(.str "LESS" (359:Nat)),(.int 20 (358:Nat))⟩::⟨(PyData.keyHash P "GREATER"),(.str "GREATER" (361:Nat)),(.int 21 (360:Nat))⟩::⟨(PyData.keyHash P "EQUAL"),(.str "EQUAL" (363:Nat)),(.int 22 (362:Nat))⟩::⟨(PyData.keyHash P "DOT"),(.str "DOT" (365:Nat)),(.int 23 (364:Nat))⟩::⟨(PyData.keyHash P "PERCENT"),(.str "PERCENT" (367:Nat)),(.int 24 (366:Nat))⟩::⟨(PyData.keyHash P "LBRACE"),(.str "LBRACE" (369:Nat)),(.int 25 (368:Nat))⟩::⟨(PyData.keyHash P "RBRACE"),(.str "RBRACE" (371:Nat)),(.int 26 (370:Nat))⟩::⟨(PyData.keyHash P "EQEQUAL"),(.str "EQEQUAL" (373:Nat)),(.int 27 (372:Nat))⟩::⟨(PyData.keyHash P "NOTEQUAL"),(.str "NOTEQUAL" (375:Nat)),(.int 28 (374:Nat))⟩::⟨(PyData.keyHash P "LESSEQUAL"),(.str "LESSEQUAL" (377:Nat)),(.int 29 (376:Nat))⟩::⟨(PyData.keyHash P "GREATEREQUAL"),(.str "GREATEREQUAL" (379:Nat)),(.int 30 (378:Nat))⟩::⟨(PyData.keyHash P "TILDE"),(.str "TILDE" (381:Nat)),(.int 31 (380:Nat))⟩::⟨(PyData.keyHash P "CIRCUMFLEX"),(.str "CIRCUMFLEX" (383:Nat)),(.int 32 (382:Nat))⟩::⟨(PyData.keyHash P "LEFTSHIFT"),(.str "LEFTSHIFT" (385:Nat)),(.int 33 (384:Nat))⟩::⟨(PyData.keyHash P "RIGHTSHIFT"),(.str "RIGHTSHIFT" (387:Nat)),(.int 34 (386:Nat))⟩::⟨(PyData.keyHash P "DOUBLESTAR"),(.str "DOUBLESTAR" (389:Nat)),(.int 35 (388:Nat))⟩::⟨(PyData.keyHash P "PLUSEQUAL"),(.str "PLUSEQUAL" (391:Nat)),(.int 36 (390:Nat))⟩::⟨(PyData.keyHash P "MINEQUAL"),(.str "MINEQUAL" (393:Nat)),(.int 37 (392:Nat))⟩::⟨(PyData.keyHash P "STAREQUAL"),(.str "STAREQUAL" (395:Nat)),(.int 38 (394:Nat))⟩::⟨(PyData.keyHash P "SLASHEQUAL"),(.str "SLASHEQUAL" (397:Nat)),(.int 39 (396:Nat))⟩::⟨(PyData.keyHash P "PERCENTEQUAL"),(.str "PERCENTEQUAL" (399:Nat)),(.int 40 (398:Nat))⟩::⟨(PyData.keyHash P "AMPEREQUAL"),(.str "AMPEREQUAL" (401:Nat)),(.int 41 (400:Nat))⟩::⟨(PyData.keyHash P "VBAREQUAL"),(.str "VBAREQUAL" (403:Nat)),(.int 42 (402:Nat))⟩::⟨(PyData.keyHash P "CIRCUMFLEXEQUAL"),(.str "CIRCUMFLEXEQUAL" (405:Nat)),(.int 43 (404:Nat))⟩::⟨(PyData.keyHash P "LEFTSHIFTEQUAL"),(.str "LEFTSHIFTEQUAL" (407:Nat)),(.int 44 (406:Nat))⟩::⟨(PyData.keyHash P "RIGHTSHIFTEQUAL"),(.str "RIGHTSHIFTEQUAL" (409:Nat)),(.int 45 (408:Nat))⟩::⟨(PyData.keyHash P "DOUBLESTAREQUAL"),(.str "DOUBLESTAREQUAL" (411:Nat)),(.int 46 (410:Nat))⟩::⟨(PyData.keyHash P "DOUBLESLASH"),(.str "DOUBLESLASH" (413:Nat)),(.int 47 (412:Nat))⟩::⟨(PyData.keyHash P "DOUBLESLASHEQUAL"),(.str "DOUBLESLASHEQUAL" (415:Nat)),(.int 48 (414:Nat))⟩::⟨(PyData.keyHash P "AT"),(.str "AT" (417:Nat)),(.int 49 (416:Nat))⟩::⟨(PyData.keyHash P "ATEQUAL"),(.str "ATEQUAL" (419:Nat)),(.int 50 (418:Nat))⟩::⟨(PyData.keyHash P "RARROW"),(.str "RARROW" (421:Nat)),(.int 51 (420:Nat))⟩::⟨(PyData.keyHash P "ELLIPSIS"),(.str "ELLIPSIS" (423:Nat)),(.int 52 (422:Nat))⟩::⟨(PyData.keyHash P "COLONEQUAL"),(.str "COLONEQUAL" (425:Nat)),(.int 53 (424:Nat))⟩::⟨(PyData.keyHash P "EXCLAMATION"),(.str "EXCLAMATION" (427:Nat)),(.int 54 (426:Nat))⟩::⟨(PyData.keyHash P "EXACT_TOKEN_TYPES"),(.str "EXACT_TOKEN_TYPES" (524:Nat)),(.ref (121:Nat))⟩::⟨(PyData.keyHash P "ISEOF"),(.str "ISEOF" (531:Nat)),(.ref (130:Nat))⟩::⟨(PyData.keyHash P "_law_cells"),(.str "_law_cells" (542:Nat)),(.ref (137:Nat))⟩::⟨(PyData.keyHash P "_law_signs"),(.str "_law_signs" (548:Nat)),(.ref (144:Nat))⟩::⟨(PyData.keyHash P "_law_cut"),(.str "_law_cut" (559:Nat)),(.ref (151:Nat))⟩::⟨(PyData.keyHash P "_law_cheapest"),(.str "_law_cheapest" (565:Nat)),(.ref (156:Nat))⟩::⟨(PyData.keyHash P "_law_first"),(.str "_law_first" (572:Nat)),(.ref (163:Nat))⟩::⟨(PyData.keyHash P "_law_lengths"),(.str "_law_lengths" (586:Nat)),(.ref (170:Nat))⟩::⟨(PyData.keyHash P "_law_order"),(.str "_law_order" (592:Nat)),(.ref (175:Nat))⟩::⟨(PyData.keyHash P "_law_firsts"),(.str "_law_firsts" (603:Nat)),(.ref (182:Nat))⟩::⟨(PyData.keyHash P "_law_starts"),(.str "_law_starts" (613:Nat)),(.ref (189:Nat))⟩::⟨(PyData.keyHash P "_law_written"),(.str "_law_written" (627:Nat)),(.ref (196:Nat))⟩::⟨(PyData.keyHash P "_law_due"),(.str "_law_due" (633:Nat)),(.ref (201:Nat))⟩::⟨(PyData.keyHash P "_law_read"),(.str "_law_read" (651:Nat)),(.ref (208:Nat))⟩::⟨(PyData.keyHash P "law"),(.str "law" (657:Nat)),(.ref (213:Nat))⟩::[])) (87:Nat)),#[]⟩) ::
   (nat_lit 15,⟨(.type "tuple"),(@none Nat),(.seq #[(.int 0 (189:Nat)),.none] (0:Nat)),#[]⟩) ::
   (nat_lit 16,⟨(.type "dict"),(@none Nat),(.dict #[⟨(PyData.keyHash P "key"),(.str "key" (190:Nat)),.none⟩] (1:Nat)),#[]⟩) ::
   (nat_lit 17,⟨(.type "tuple"),(@none Nat),(.seq #[] (0:Nat)),#[]⟩) ::
   (nat_lit 19,⟨(.type "tuple"),(@none Nat),(.seq #[(.str "a" (194:Nat)),(.str "x" (195:Nat)),(.str "lo" (196:Nat)),(.str "hi" (197:Nat)),(.str "key" (198:Nat))] (0:Nat)),#[]⟩) ::
   (nat_lit 20,⟨(.type "tuple"),(@none Nat),(.seq #[] (0:Nat)),#[]⟩) ::
   (nat_lit 22,⟨(.type "code"),(@none Nat),(.fields #[(.str "insort_right" (191:Nat)),(.str "insort_right" (192:Nat)),(.str "/claim/cut.py" (193:Nat)),(.int 2 (0:Nat)),(.int 4 (0:Nat)),(.int 0 (0:Nat)),(.int 1 (0:Nat)),(.int 3 (0:Nat)),(.ref (17:Nat)),(.bool true),(.int 181 (0:Nat)),(.ref (18:Nat)),.none,(.ref (19:Nat)),(.ref (20:Nat)),(.ref (21:Nat)),(.int 199 (0:Nat)),(.int 2 (0:Nat)),(.str "/claim/cut.py" (200:Nat))]),#[]⟩) ::
   (nat_lit 23,⟨(.type "function"),(@none Nat),(.func ⟨"insort_right","insort_right",a0,(.stmts b0),c0,(3:Nat),[],(.ref (15:Nat)),(.ref (16:Nat)),.none,(.str "cpy313.bisect" (187:Nat)),(@none Nat),(.ref (22:Nat)),.none,(0:Nat)⟩),#[]⟩) ::
   (nat_lit 24,⟨(.type "tuple"),(@none Nat),(.seq #[(.int 0 (202:Nat)),.none] (0:Nat)),#[]⟩) ::
   (nat_lit 25,⟨(.type "dict"),(@none Nat),(.dict #[⟨(PyData.keyHash P "key"),(.str "key" (203:Nat)),.none⟩] (1:Nat)),#[]⟩) ::
   (nat_lit 26,⟨(.type "tuple"),(@none Nat),(.seq #[] (0:Nat)),#[]⟩) ::
   (nat_lit 28,⟨(.type "tuple"),(@none Nat),(.seq #[(.str "a" (207:Nat)),(.str "x" (208:Nat)),(.str "lo" (209:Nat)),(.str "hi" (210:Nat)),(.str "key" (211:Nat)),(.str "mid" (212:Nat))] (0:Nat)),#[]⟩) ::
   (nat_lit 29,⟨(.type "tuple"),(@none Nat),(.seq #[] (0:Nat)),#[]⟩) ::
   (nat_lit 31,⟨(.type "code"),(@none Nat),(.fields #[(.str "bisect_right" (204:Nat)),(.str "bisect_right" (205:Nat)),(.str "/claim/cut.py" (206:Nat)),(.int 8 (0:Nat)),(.int 4 (0:Nat)),(.int 0 (0:Nat)),(.int 1 (0:Nat)),(.int 3 (0:Nat)),(.ref (26:Nat)),(.bool true),(.int 181 (0:Nat)),(.ref (27:Nat)),.none,(.ref (28:Nat)),(.ref (29:Nat)),(.ref (30:Nat)),(.int 213 (0:Nat)),(.int 8 (0:Nat)),(.str "/claim/cut.py" (214:Nat))]),#[]⟩) ::
   (nat_lit 32,⟨(.type "function"),(@none Nat),(.func ⟨"bisect_right","bisect_right",a1,(.stmts b1),c1,(3:Nat),[],(.ref (24:Nat)),(.ref (25:Nat)),.none,(.str "cpy313.bisect" (187:Nat)),(@none Nat),(.ref (31:Nat)),.none,(0:Nat)⟩),#[]⟩) ::
   (nat_lit 33,⟨(.type "tuple"),(@none Nat),(.seq #[(.int 0 (216:Nat)),.none] (0:Nat)),#[]⟩) ::
   (nat_lit 34,⟨(.type "dict"),(@none Nat),(.dict #[⟨(PyData.keyHash P "key"),(.str "key" (217:Nat)),.none⟩] (1:Nat)),#[]⟩) ::
   (nat_lit 35,⟨(.type "tuple"),(@none Nat),(.seq #[] (0:Nat)),#[]⟩) ::
   (nat_lit 37,⟨(.type "tuple"),(@none Nat),(.seq #[(.str "a" (221:Nat)),(.str "x" (222:Nat)),(.str "lo" (223:Nat)),(.str "hi" (224:Nat)),(.str "key" (225:Nat))] (0:Nat)),#[]⟩) ::
   (nat_lit 38,⟨(.type "tuple"),(@none Nat),(.seq #[] (0:Nat)),#[]⟩) ::
   (nat_lit 40,⟨(.type "code"),(@none Nat),(.fields #[(.str "insort_left" (218:Nat)),(.str "insort_left" (219:Nat)),(.str "/claim/cut.py" (220:Nat)),(.int 28 (0:Nat)),(.int 4 (0:Nat)),(.int 0 (0:Nat)),(.int 1 (0:Nat)),(.int 3 (0:Nat)),(.ref (35:Nat)),(.bool true),(.int 181 (0:Nat)),(.ref (36:Nat)),.none,(.ref (37:Nat)),(.ref (38:Nat)),(.ref (39:Nat)),(.int 226 (0:Nat)),(.int 28 (0:Nat)),(.str "/claim/cut.py" (227:Nat))]),#[]⟩) ::
   (nat_lit 41,⟨(.type "function"),(@none Nat),(.func ⟨"insort_left","insort_left",a2,(.stmts b2),c2,(3:Nat),[],(.ref (33:Nat)),(.ref (34:Nat)),.none,(.str "cpy313.bisect" (187:Nat)),(@none Nat),(.ref (40:Nat)),.none,(0:Nat)⟩),#[]⟩) ::
   (nat_lit 42,⟨(.type "tuple"),(@none Nat),(.seq #[(.int 0 (229:Nat)),.none] (0:Nat)),#[]⟩) ::
   (nat_lit 43,⟨(.type "dict"),(@none Nat),(.dict #[⟨(PyData.keyHash P "key"),(.str "key" (230:Nat)),.none⟩] (1:Nat)),#[]⟩) ::
   (nat_lit 44,⟨(.type "tuple"),(@none Nat),(.seq #[] (0:Nat)),#[]⟩) ::
   (nat_lit 46,⟨(.type "tuple"),(@none Nat),(.seq #[(.str "a" (234:Nat)),(.str "x" (235:Nat)),(.str "lo" (236:Nat)),(.str "hi" (237:Nat)),(.str "key" (238:Nat)),(.str "mid" (239:Nat))] (0:Nat)),#[]⟩) ::
   (nat_lit 47,⟨(.type "tuple"),(@none Nat),(.seq #[] (0:Nat)),#[]⟩) ::
   (nat_lit 49,⟨(.type "code"),(@none Nat),(.fields #[(.str "bisect_left" (231:Nat)),(.str "bisect_left" (232:Nat)),(.str "/claim/cut.py" (233:Nat)),(.int 34 (0:Nat)),(.int 4 (0:Nat)),(.int 0 (0:Nat)),(.int 1 (0:Nat)),(.int 3 (0:Nat)),(.ref (44:Nat)),(.bool true),(.int 181 (0:Nat)),(.ref (45:Nat)),.none,(.ref (46:Nat)),(.ref (47:Nat)),(.ref (48:Nat)),(.int 240 (0:Nat)),(.int 34 (0:Nat)),(.str "/claim/cut.py" (241:Nat))]),#[]⟩) ::
   (nat_lit 50,⟨(.type "function"),(@none Nat),(.func ⟨"bisect_left","bisect_left",a3,(.stmts b3),c3,(3:Nat),[],(.ref (42:Nat)),(.ref (43:Nat)),.none,(.str "cpy313.bisect" (187:Nat)),(@none Nat),(.ref (49:Nat)),.none,(0:Nat)⟩),#[]⟩) ::
   (nat_lit 51,⟨(.type "tuple"),(@none Nat),(.seq #[] (0:Nat)),#[]⟩) ::
   (nat_lit 53,⟨(.type "tuple"),(@none Nat),(.seq #[(.str "a" (248:Nat)),(.str "b" (249:Nat))] (0:Nat)),#[]⟩) ::
   (nat_lit 54,⟨(.type "tuple"),(@none Nat),(.seq #[] (0:Nat)),#[]⟩) ::
   (nat_lit 56,⟨(.type "code"),(@none Nat),(.fields #[(.str "add" (245:Nat)),(.str "add" (246:Nat)),(.str "/claim/cut.py" (247:Nat)),(.int 55 (0:Nat)),(.int 2 (0:Nat)),(.int 0 (0:Nat)),(.int 0 (0:Nat)),(.int 3 (0:Nat)),(.ref (51:Nat)),(.bool true),(.int 181 (0:Nat)),(.ref (52:Nat)),.none,(.ref (53:Nat)),(.ref (54:Nat)),(.ref (55:Nat)),(.int 250 (0:Nat)),(.int 55 (0:Nat)),(.str "/claim/cut.py" (251:Nat))]),#[]⟩) ::
   (nat_lit 57,⟨(.type "function"),(@none Nat),(.func ⟨"add","add",a4,(.stmts b4),c4,(3:Nat),[],.none,.none,.none,(.str "cpy313.operator" (243:Nat)),(@none Nat),(.ref (56:Nat)),.none,(0:Nat)⟩),#[]⟩) ::
   (nat_lit 58,⟨(.type "tuple"),(@none Nat),(.seq #[] (0:Nat)),#[]⟩) ::
   (nat_lit 60,⟨(.type "tuple"),(@none Nat),(.seq #[(.str "a" (256:Nat)),(.str "b" (257:Nat))] (0:Nat)),#[]⟩) ::
   (nat_lit 61,⟨(.type "tuple"),(@none Nat),(.seq #[] (0:Nat)),#[]⟩) ::
   (nat_lit 63,⟨(.type "code"),(@none Nat),(.fields #[(.str "and_" (253:Nat)),(.str "and_" (254:Nat)),(.str "/claim/cut.py" (255:Nat)),(.int 57 (0:Nat)),(.int 2 (0:Nat)),(.int 0 (0:Nat)),(.int 0 (0:Nat)),(.int 3 (0:Nat)),(.ref (58:Nat)),(.bool true),(.int 181 (0:Nat)),(.ref (59:Nat)),.none,(.ref (60:Nat)),(.ref (61:Nat)),(.ref (62:Nat)),(.int 258 (0:Nat)),(.int 57 (0:Nat)),(.str "/claim/cut.py" (259:Nat))]),#[]⟩) ::
   (nat_lit 64,⟨(.type "function"),(@none Nat),(.func ⟨"and_","and_",a5,(.stmts b5),c5,(3:Nat),[],.none,.none,.none,(.str "cpy313.operator" (243:Nat)),(@none Nat),(.ref (63:Nat)),.none,(0:Nat)⟩),#[]⟩) ::
   (nat_lit 65,⟨(.type "tuple"),(@none Nat),(.seq #[] (0:Nat)),#[]⟩) ::
   (nat_lit 67,⟨(.type "tuple"),(@none Nat),(.seq #[(.str "a" (264:Nat)),(.str "b" (265:Nat))] (0:Nat)),#[]⟩) ::
   (nat_lit 68,⟨(.type "tuple"),(@none Nat),(.seq #[] (0:Nat)),#[]⟩) ::
   (nat_lit 70,⟨(.type "code"),(@none Nat),(.fields #[(.str "lshift" (261:Nat)),(.str "lshift" (262:Nat)),(.str "/claim/cut.py" (263:Nat)),(.int 59 (0:Nat)),(.int 2 (0:Nat)),(.int 0 (0:Nat)),(.int 0 (0:Nat)),(.int 3 (0:Nat)),(.ref (65:Nat)),(.bool true),(.int 181 (0:Nat)),(.ref (66:Nat)),.none,(.ref (67:Nat)),(.ref (68:Nat)),(.ref (69:Nat)),(.int 266 (0:Nat)),(.int 59 (0:Nat)),(.str "/claim/cut.py" (267:Nat))]),#[]⟩) ::
   (nat_lit 71,⟨(.type "function"),(@none Nat),(.func ⟨"lshift","lshift",a6,(.stmts b6),c6,(3:Nat),[],.none,.none,.none,(.str "cpy313.operator" (243:Nat)),(@none Nat),(.ref (70:Nat)),.none,(0:Nat)⟩),#[]⟩) ::
   (nat_lit 72,⟨(.type "tuple"),(@none Nat),(.seq #[] (0:Nat)),#[]⟩) ::
   (nat_lit 74,⟨(.type "tuple"),(@none Nat),(.seq #[(.str "a" (272:Nat)),(.str "b" (273:Nat))] (0:Nat)),#[]⟩) ::
   (nat_lit 75,⟨(.type "tuple"),(@none Nat),(.seq #[] (0:Nat)),#[]⟩) ::
   (nat_lit 77,⟨(.type "code"),(@none Nat),(.fields #[(.str "or_" (269:Nat)),(.str "or_" (270:Nat)),(.str "/claim/cut.py" (271:Nat)),(.int 61 (0:Nat)),(.int 2 (0:Nat)),(.int 0 (0:Nat)),(.int 0 (0:Nat)),(.int 3 (0:Nat)),(.ref (72:Nat)),(.bool true),(.int 181 (0:Nat)),(.ref (73:Nat)),.none,(.ref (74:Nat)),(.ref (75:Nat)),(.ref (76:Nat)),(.int 274 (0:Nat)),(.int 61 (0:Nat)),(.str "/claim/cut.py" (275:Nat))]),#[]⟩) ::
   (nat_lit 78,⟨(.type "function"),(@none Nat),(.func ⟨"or_","or_",a7,(.stmts b7),c7,(3:Nat),[],.none,.none,.none,(.str "cpy313.operator" (243:Nat)),(@none Nat),(.ref (77:Nat)),.none,(0:Nat)⟩),#[]⟩) ::
   (nat_lit 79,⟨(.type "tuple"),(@none Nat),(.seq #[] (0:Nat)),#[]⟩) ::
   (nat_lit 81,⟨(.type "tuple"),(@none Nat),(.seq #[(.str "a" (280:Nat)),(.str "b" (281:Nat))] (0:Nat)),#[]⟩) ::
   (nat_lit 82,⟨(.type "tuple"),(@none Nat),(.seq #[] (0:Nat)),#[]⟩) ::
   (nat_lit 84,⟨(.type "code"),(@none Nat),(.fields #[(.str "rshift" (277:Nat)),(.str "rshift" (278:Nat)),(.str "/claim/cut.py" (279:Nat)),(.int 63 (0:Nat)),(.int 2 (0:Nat)),(.int 0 (0:Nat)),(.int 0 (0:Nat)),(.int 3 (0:Nat)),(.ref (79:Nat)),(.bool true),(.int 181 (0:Nat)),(.ref (80:Nat)),.none,(.ref (81:Nat)),(.ref (82:Nat)),(.ref (83:Nat)),(.int 282 (0:Nat)),(.int 63 (0:Nat)),(.str "/claim/cut.py" (283:Nat))]),#[]⟩) ::
   (nat_lit 85,⟨(.type "function"),(@none Nat),(.func ⟨"rshift","rshift",a8,(.stmts b8),c8,(3:Nat),[],.none,.none,.none,(.str "cpy313.operator" (243:Nat)),(@none Nat),(.ref (84:Nat)),.none,(0:Nat)⟩),#[]⟩) ::
   (nat_lit 86,⟨(.type "tuple"),(@none Nat),(.seq #[] (0:Nat)),#[]⟩) ::
   (nat_lit 88,⟨(.type "tuple"),(@none Nat),(.seq #[(.str "a" (288:Nat)),(.str "b" (289:Nat))] (0:Nat)),#[]⟩) ::
   (nat_lit 89,⟨(.type "tuple"),(@none Nat),(.seq #[] (0:Nat)),#[]⟩) ::
   (nat_lit 91,⟨(.type "code"),(@none Nat),(.fields #[(.str "sub" (285:Nat)),(.str "sub" (286:Nat)),(.str "/claim/cut.py" (287:Nat)),(.int 65 (0:Nat)),(.int 2 (0:Nat)),(.int 0 (0:Nat)),(.int 0 (0:Nat)),(.int 3 (0:Nat)),(.ref (86:Nat)),(.bool true),(.int 181 (0:Nat)),(.ref (87:Nat)),.none,(.ref (88:Nat)),(.ref (89:Nat)),(.ref (90:Nat)),(.int 290 (0:Nat)),(.int 65 (0:Nat)),(.str "/claim/cut.py" (291:Nat))]),#[]⟩) ::
   (nat_lit 92,⟨(.type "function"),(@none Nat),(.func ⟨"sub","sub",a9,(.stmts b9),c9,(3:Nat),[],.none,.none,.none,(.str "cpy313.operator" (243:Nat)),(@none Nat),(.ref (91:Nat)),.none,(0:Nat)⟩),#[]⟩) ::
   (nat_lit 93,⟨(.type "tuple"),(@none Nat),(.seq #[] (0:Nat)),#[]⟩) ::
   (nat_lit 95,⟨(.type "tuple"),(@none Nat),(.seq #[(.str "a" (296:Nat)),(.str "b" (297:Nat)),(.str "msg" (298:Nat))] (0:Nat)),#[]⟩) ::
   (nat_lit 96,⟨(.type "tuple"),(@none Nat),(.seq #[] (0:Nat)),#[]⟩) ::
   (nat_lit 98,⟨(.type "code"),(@none Nat),(.fields #[(.str "concat" (293:Nat)),(.str "concat" (294:Nat)),(.str "/claim/cut.py" (295:Nat)),(.int 67 (0:Nat)),(.int 2 (0:Nat)),(.int 0 (0:Nat)),(.int 0 (0:Nat)),(.int 3 (0:Nat)),(.ref (93:Nat)),(.bool true),(.int 181 (0:Nat)),(.ref (94:Nat)),.none,(.ref (95:Nat)),(.ref (96:Nat)),(.ref (97:Nat)),(.int 299 (0:Nat)),(.int 67 (0:Nat)),(.str "/claim/cut.py" (300:Nat))]),#[]⟩) ::
   (nat_lit 99,⟨(.type "function"),(@none Nat),(.func ⟨"concat","concat",a10,(.stmts b10),c10,(3:Nat),[],.none,.none,.none,(.str "cpy313.operator" (243:Nat)),(@none Nat),(.ref (98:Nat)),.none,(0:Nat)⟩),#[]⟩) ::
   (nat_lit 100,⟨(.type "tuple"),(@none Nat),(.seq #[] (0:Nat)),#[]⟩) ::
   (nat_lit 102,⟨(.type "tuple"),(@none Nat),(.seq #[(.str "a" (305:Nat)),(.str "b" (306:Nat))] (0:Nat)),#[]⟩) ::
   (nat_lit 103,⟨(.type "tuple"),(@none Nat),(.seq #[] (0:Nat)),#[]⟩) ::
   (nat_lit 105,⟨(.type "code"),(@none Nat),(.fields #[(.str "contains" (302:Nat)),(.str "contains" (303:Nat)),(.str "/claim/cut.py" (304:Nat)),(.int 72 (0:Nat)),(.int 2 (0:Nat)),(.int 0 (0:Nat)),(.int 0 (0:Nat)),(.int 3 (0:Nat)),(.ref (100:Nat)),(.bool true),(.int 181 (0:Nat)),(.ref (101:Nat)),.none,(.ref (102:Nat)),(.ref (103:Nat)),(.ref (104:Nat)),(.int 307 (0:Nat)),(.int 72 (0:Nat)),(.str "/claim/cut.py" (308:Nat))]),#[]⟩) ::
   (nat_lit 106,⟨(.type "function"),(@none Nat),(.func ⟨"contains","contains",a11,(.stmts b11),c11,(3:Nat),[],.none,.none,.none,(.str "cpy313.operator" (243:Nat)),(@none Nat),(.ref (105:Nat)),.none,(0:Nat)⟩),#[]⟩) ::
   (nat_lit 107,⟨(.type "tuple"),(@none Nat),(.seq #[] (0:Nat)),#[]⟩) ::
   (nat_lit 109,⟨(.type "tuple"),(@none Nat),(.seq #[(.str "a" (313:Nat)),(.str "b" (314:Nat))] (0:Nat)),#[]⟩) ::
   (nat_lit 110,⟨(.type "tuple"),(@none Nat),(.seq #[] (0:Nat)),#[]⟩) ::
   (nat_lit 112,⟨(.type "code"),(@none Nat),(.fields #[(.str "getitem" (310:Nat)),(.str "getitem" (311:Nat)),(.str "/claim/cut.py" (312:Nat)),(.int 74 (0:Nat)),(.int 2 (0:Nat)),(.int 0 (0:Nat)),(.int 0 (0:Nat)),(.int 3 (0:Nat)),(.ref (107:Nat)),(.bool true),(.int 181 (0:Nat)),(.ref (108:Nat)),.none,(.ref (109:Nat)),(.ref (110:Nat)),(.ref (111:Nat)),(.int 315 (0:Nat)),(.int 74 (0:Nat)),(.str "/claim/cut.py" (316:Nat))]),#[]⟩) ::
   (nat_lit 113,⟨(.type "function"),(@none Nat),(.func ⟨"getitem","getitem",a12,(.stmts b12),c12,(3:Nat),[],.none,.none,.none,(.str "cpy313.operator" (243:Nat)),(@none Nat),(.ref (112:Nat)),.none,(0:Nat)⟩),#[]⟩) ::
   (nat_lit 114,⟨(.type "tuple"),(@none Nat),(.seq #[] (0:Nat)),#[]⟩) ::
   (nat_lit 116,⟨(.type "tuple"),(@none Nat),(.seq #[(.str "a" (321:Nat)),(.str "b" (322:Nat)),(.str "i" (323:Nat)),(.str "j" (324:Nat))] (0:Nat)),#[]⟩) ::
   (nat_lit 117,⟨(.type "tuple"),(@none Nat),(.seq #[] (0:Nat)),#[]⟩) ::
   (nat_lit 119,⟨(.type "code"),(@none Nat),(.fields #[(.str "indexOf" (318:Nat)),(.str "indexOf" (319:Nat)),(.str "/claim/cut.py" (320:Nat)),(.int 76 (0:Nat)),(.int 2 (0:Nat)),(.int 0 (0:Nat)),(.int 0 (0:Nat)),(.int 3 (0:Nat)),(.ref (114:Nat)),(.bool true),(.int 181 (0:Nat)),(.ref (115:Nat)),.none,(.ref (116:Nat)),(.ref (117:Nat)),(.ref (118:Nat)),(.int 325 (0:Nat)),(.int 76 (0:Nat)),(.str "/claim/cut.py" (326:Nat))]),#[]⟩) ::
   (nat_lit 120,⟨(.type "function"),(@none Nat),(.func ⟨"indexOf","indexOf",a13,(.stmts b13),c13,(3:Nat),[],.none,.none,.none,(.str "cpy313.operator" (243:Nat)),(@none Nat),(.ref (119:Nat)),.none,(0:Nat)⟩),#[]⟩) ::
   (nat_lit 121,⟨(.type "dict"),(@none Nat),(.dict #[⟨(PyData.keyHash P "!"),(.str "!" (428:Nat)),(.int 54 (426:Nat))⟩,⟨(PyData.keyHash P "!="),(.str "!=" (430:Nat)),(.int 28 (374:Nat))⟩,⟨(PyData.keyHash P "%"),(.str "%" (432:Nat)),(.int 24 (366:Nat))⟩,⟨(PyData.keyHash P "%="),(.str "%=" (434:Nat)),(.int 40 (398:Nat))⟩,⟨(PyData.keyHash P "&"),(.str "&" (436:Nat)),(.int 19 (356:Nat))⟩,⟨(PyData.keyHash P "&="),(.str "&=" (438:Nat)),(.int 41 (400:Nat))⟩,⟨(PyData.keyHash P "("),(.str "(" (440:Nat)),(.int 7 (332:Nat))⟩,⟨(PyData.keyHash P ")"),(.str ")" (442:Nat)),(.int 8 (334:Nat))⟩,⟨(PyData.keyHash P "*"),(.str "*" (444:Nat)),(.int 16 (350:Nat))⟩,⟨(PyData.keyHash P "**"),(.str "**" (446:Nat)),(.int 35 (388:Nat))⟩,⟨(PyData.keyHash P "**="),(.str "**=" (448:Nat)),(.int 46 (410:Nat))⟩,⟨(PyData.keyHash P "*="),(.str "*=" (450:Nat)),(.int 38 (394:Nat))⟩,⟨(PyData.keyHash P "+"),(.str "+" (452:Nat)),(.int 14 (346:Nat))⟩,⟨(PyData.keyHash P "+="),(.str "+=" (454:Nat)),(.int 36 (390:Nat))⟩,⟨(PyData.keyHash P ","),(.str "," (456:Nat)),(.int 12 (342:Nat))⟩,⟨(PyData.keyHash P "-"),(.str "-" (458:Nat)),(.int 15 (348:Nat))⟩,⟨(PyData.keyHash P "-="),(.str "-=" (460:Nat)),(.int 37 (392:Nat))⟩,⟨(PyData.keyHash P "->"),(.str "->" (462:Nat)),(.int 51 (420:Nat))⟩,⟨(PyData.keyHash P "."),(.str "." (464:Nat)),(.int 23 (364:Nat))⟩,⟨(PyData.keyHash P "..."),(.str "..." (466:Nat)),(.int 52 (422:Nat))⟩,⟨(PyData.keyHash P "/"),(.str "/" (468:Nat)),(.int 17 (352:Nat))⟩,⟨(PyData.keyHash P "//"),(.str "//" (470:Nat)),(.int 47 (412:Nat))⟩,⟨(PyData.keyHash P "//="),(.str "//=" (472:Nat)),(.int 48 (414:Nat))⟩,⟨(PyData.keyHash P "/="),(.str "/=" (474:Nat)),(.int 39 (396:Nat))⟩,⟨(PyData.keyHash P ":"),(.str ":" (476:Nat)),(.int 11 (340:Nat))⟩,⟨(PyData.keyHash P ":="),(.str ":=" (478:Nat)),(.int 53 (424:Nat))⟩,⟨(PyData.keyHash P ";"),(.str ";" (480:Nat)),(.int 13 (344:Nat))⟩,⟨(PyData.keyHash P "<"),(.str "<" (482:Nat)),(.int 20 (358:Nat))⟩,⟨(PyData.keyHash P "<<"),(.str "<<" (484:Nat)),(.int 33 (384:Nat))⟩,⟨(PyData.keyHash P "<<="),(.str "<<=" (486:Nat)),(.int 44 (406:Nat))⟩,⟨(PyData.keyHash P "<="),(.str "<=" (488:Nat)),(.int 29 (376:Nat))⟩,⟨(PyData.keyHash P "="),(.str "=" (490:Nat)),(.int 22 (362:Nat))⟩,⟨(PyData.keyHash P "=="),(.str "==" (492:Nat)),(.int 27 (372:Nat))⟩,⟨(PyData.keyHash P ">"),(.str ">" (494:Nat)),(.int 21 (360:Nat))⟩,⟨(PyData.keyHash P ">="),(.str ">=" (496:Nat)),(.int 30 (378:Nat))⟩,⟨(PyData.keyHash P ">>"),(.str ">>" (497:Nat)),(.int 34 (386:Nat))⟩,⟨(PyData.keyHash P ">>="),(.str ">>=" (498:Nat)),(.int 45 (408:Nat))⟩,⟨(PyData.keyHash P "@"),(.str "@" (499:Nat)),(.int 49 (416:Nat))⟩,⟨(PyData.keyHash P "@="),(.str "@=" (500:Nat)),(.int 50 (418:Nat))⟩,⟨(PyData.keyHash P "["),(.str "[" (501:Nat)),(.int 9 (336:Nat))⟩,⟨(PyData.keyHash P "]"),(.str "]" (502:Nat)),(.int 10 (338:Nat))⟩,⟨(PyData.keyHash P "^"),(.str "^" (503:Nat)),(.int 32 (382:Nat))⟩,⟨(PyData.keyHash P "^="),(.str "^=" (504:Nat)),(.int 43 (404:Nat))⟩,⟨(PyData.keyHash P "{"),(.str "{" (505:Nat)),(.int 25 (368:Nat))⟩,⟨(PyData.keyHash P "|"),(.str "|" (506:Nat)),(.int 18 (354:Nat))⟩,⟨(PyData.keyHash P "|="),(.str "|=" (507:Nat)),(.int 42 (402:Nat))⟩,⟨(PyData.keyHash P "}"),(.str "}" (508:Nat)),(.int 26 (370:Nat))⟩,⟨(PyData.keyHash P "~"),(.str "~" (509:Nat)),(.int 31 (380:Nat))⟩] (48:Nat)),#[]⟩) ::
   (nat_lit 124,⟨(.type "tuple"),(@none Nat),(.seq #[] (0:Nat)),#[]⟩) ::
   (nat_lit 126,⟨(.type "tuple"),(@none Nat),(.seq #[(.str "x" (528:Nat))] (0:Nat)),#[]⟩) ::
   (nat_lit 127,⟨(.type "tuple"),(@none Nat),(.seq #[] (0:Nat)),#[]⟩) ::
   (nat_lit 129,⟨(.type "code"),(@none Nat),(.fields #[(.str "ISEOF" (525:Nat)),(.str "ISEOF" (526:Nat)),(.str "/claim/cut.py" (527:Nat)),(.int 133 (0:Nat)),(.int 1 (0:Nat)),(.int 0 (0:Nat)),(.int 0 (0:Nat)),(.int 3 (0:Nat)),(.ref (124:Nat)),(.bool true),(.int 181 (0:Nat)),(.ref (125:Nat)),.none,(.ref (126:Nat)),(.ref (127:Nat)),(.ref (128:Nat)),(.int 529 (0:Nat)),(.int 133 (0:Nat)),(.str "/claim/cut.py" (530:Nat))]),#[]⟩) ::
   (nat_lit 130,⟨(.type "function"),(@none Nat),(.func ⟨"ISEOF","ISEOF",a14,(.stmts b14),c14,(3:Nat),[],.none,.none,.none,(.str "cpy313.token" (328:Nat)),(@none Nat),(.ref (129:Nat)),.none,(0:Nat)⟩),#[]⟩) ::
   (nat_lit 131,⟨(.type "tuple"),(@none Nat),(.seq #[] (0:Nat)),#[]⟩) ::
   (nat_lit 133,⟨(.type "tuple"),(@none Nat),(.seq #[(.str "script" (537:Nat)),(.str "cells" (538:Nat)),(.str "k" (539:Nat))] (0:Nat)),#[]⟩) ::
   (nat_lit 134,⟨(.type "tuple"),(@none Nat),(.seq #[] (0:Nat)),#[]⟩) ::
   (nat_lit 136,⟨(.type "code"),(@none Nat),(.fields #[(.str "_law_cells" (534:Nat)),(.str "_law_cells" (535:Nat)),(.str "/claim/cut.py" (536:Nat)),(.int 136 (0:Nat)),(.int 1 (0:Nat)),(.int 0 (0:Nat)),(.int 0 (0:Nat)),(.int 3 (0:Nat)),(.ref (131:Nat)),(.bool true),(.int 181 (0:Nat)),(.ref (132:Nat)),.none,(.ref (133:Nat)),(.ref (134:Nat)),(.ref (135:Nat)),(.int 540 (0:Nat)),(.int 136 (0:Nat)),(.str "/claim/cut.py" (541:Nat))]),#[]⟩) ::
   (nat_lit 137,⟨(.type "function"),(@none Nat),(.func ⟨"_law_cells","_law_cells",a15,(.stmts b15),c15,(3:Nat),[],.none,.none,.none,(.str "law_uk0004_01" (532:Nat)),(@none Nat),(.ref (136:Nat)),.none,(0:Nat)⟩),#[]⟩) ::
   (nat_lit 138,⟨(.type "tuple"),(@none Nat),(.seq #[] (0:Nat)),#[]⟩) ::
   (nat_lit 140,⟨(.type "tuple"),(@none Nat),(.seq #[] (0:Nat)),#[]⟩) ::
   (nat_lit 141,⟨(.type "tuple"),(@none Nat),(.seq #[] (0:Nat)),#[]⟩) ::
   (nat_lit 143,⟨(.type "code"),(@none Nat),(.fields #[(.str "_law_signs" (543:Nat)),(.str "_law_signs" (544:Nat)),(.str "/claim/cut.py" (545:Nat)),(.int 141 (0:Nat)),(.int 0 (0:Nat)),(.int 0 (0:Nat)),(.int 0 (0:Nat)),(.int 3 (0:Nat)),(.ref (138:Nat)),(.bool true),(.int 181 (0:Nat)),(.ref (139:Nat)),.none,(.ref (140:Nat)),(.ref (141:Nat)),(.ref (142:Nat)),(.int 546 (0:Nat)),(.int 141 (0:Nat)),(.str "/claim/cut.py" (547:Nat))]),#[]⟩) ::
   (nat_lit 144,⟨(.type "function"),(@none Nat),(.func ⟨"_law_signs","_law_signs",a16,(.stmts b16),c16,(3:Nat),[],.none,.none,.none,(.str "law_uk0004_01" (532:Nat)),(@none Nat),(.ref (143:Nat)),.none,(0:Nat)⟩),#[]⟩) ::
   (nat_lit 145,⟨(.type "tuple"),(@none Nat),(.seq #[] (0:Nat)),#[]⟩) ::
   (nat_lit 147,⟨(.type "tuple"),(@none Nat),(.seq #[(.str "text" (552:Nat)),(.str "numbers" (553:Nat)),(.str "at" (554:Nat)),(.str "size" (555:Nat)),(.str "found" (556:Nat))] (0:Nat)),#[]⟩) ::
   (nat_lit 148,⟨(.type "tuple"),(@none Nat),(.seq #[] (0:Nat)),#[]⟩) ::
   (nat_lit 150,⟨(.type "code"),(@none Nat),(.fields #[(.str "_law_cut" (549:Nat)),(.str "_law_cut" (550:Nat)),(.str "/claim/cut.py" (551:Nat)),(.int 143 (0:Nat)),(.int 1 (0:Nat)),(.int 0 (0:Nat)),(.int 0 (0:Nat)),(.int 3 (0:Nat)),(.ref (145:Nat)),(.bool true),(.int 181 (0:Nat)),(.ref (146:Nat)),.none,(.ref (147:Nat)),(.ref (148:Nat)),(.ref (149:Nat)),(.int 557 (0:Nat)),(.int 143 (0:Nat)),(.str "/claim/cut.py" (558:Nat))]),#[]⟩) ::
   (nat_lit 151,⟨(.type "function"),(@none Nat),(.func ⟨"_law_cut","_law_cut",a17,(.stmts b17),c17,(3:Nat),[],.none,.none,.none,(.str "law_uk0004_01" (532:Nat)),(@none Nat),(.ref (150:Nat)),.none,(0:Nat)⟩),#[]⟩) ::
   (nat_lit 152,⟨(.type "tuple"),(@none Nat),(.seq #[] (0:Nat)),#[]⟩) ::
   (nat_lit 155,⟨(.type "code"),(@none Nat),(.fields #[(.str "_law_cheapest" (560:Nat)),(.str "_law_cheapest" (561:Nat)),(.str "/claim/cut.py" (562:Nat)),(.int 156 (0:Nat)),(.int 1 (0:Nat)),(.int 0 (0:Nat)),(.int 0 (0:Nat)),(.int 3 (0:Nat)),(.ref (152:Nat)),(.bool true),(.int 181 (0:Nat)),(.ref (153:Nat)),.none,.none,.none,(.ref (154:Nat)),(.int 563 (0:Nat)),(.int 156 (0:Nat)),(.str "/claim/cut.py" (564:Nat))]),#[]⟩) ::
   (nat_lit 156,⟨(.type "function"),(@none Nat),(.func ⟨"_law_cheapest","_law_cheapest",a18,(.stmts b18),c18,(3:Nat),[],.none,.none,.none,(.str "law_uk0004_01" (532:Nat)),(@none Nat),(.ref (155:Nat)),.none,(0:Nat)⟩),#[]⟩) ::
   (nat_lit 157,⟨(.type "tuple"),(@none Nat),(.seq #[] (0:Nat)),#[]⟩) ::
   (nat_lit 159,⟨(.type "tuple"),(@none Nat),(.seq #[(.str "entry" (569:Nat))] (0:Nat)),#[]⟩) ::
   (nat_lit 160,⟨(.type "tuple"),(@none Nat),(.seq #[] (0:Nat)),#[]⟩) ::
   (nat_lit 162,⟨(.type "code"),(@none Nat),(.fields #[(.str "_law_first" (566:Nat)),(.str "_law_first" (567:Nat)),(.str "/claim/cut.py" (568:Nat)),(.int 163 (0:Nat)),(.int 1 (0:Nat)),(.int 0 (0:Nat)),(.int 0 (0:Nat)),(.int 3 (0:Nat)),(.ref (157:Nat)),(.bool true),(.int 181 (0:Nat)),(.ref (158:Nat)),.none,(.ref (159:Nat)),(.ref (160:Nat)),(.ref (161:Nat)),(.int 570 (0:Nat)),(.int 163 (0:Nat)),(.str "/claim/cut.py" (571:Nat))]),#[]⟩) ::
   (nat_lit 163,⟨(.type "function"),(@none Nat),(.func ⟨"_law_first","_law_first",a19,(.stmts b19),c19,(3:Nat),[],.none,.none,.none,(.str "law_uk0004_01" (532:Nat)),(@none Nat),(.ref (162:Nat)),.none,(0:Nat)⟩),#[]⟩) ::
   (nat_lit 164,⟨(.type "tuple"),(@none Nat),(.seq #[] (0:Nat)),#[]⟩) ::
   (nat_lit 166,⟨(.type "tuple"),(@none Nat),(.seq #[(.str "weights" (576:Nat)),(.str "behind" (577:Nat)),(.str "line" (578:Nat)),(.str "place" (579:Nat)),(.str "lengths" (580:Nat)),(.str "one" (581:Nat)),(.str "two" (582:Nat)),(.str "places" (583:Nat))] (0:Nat)),#[]⟩) ::
   (nat_lit 167,⟨(.type "tuple"),(@none Nat),(.seq #[] (0:Nat)),#[]⟩) ::
   (nat_lit 169,⟨(.type "code"),(@none Nat),(.fields #[(.str "_law_lengths" (573:Nat)),(.str "_law_lengths" (574:Nat)),(.str "/claim/cut.py" (575:Nat)),(.int 165 (0:Nat)),(.int 2 (0:Nat)),(.int 0 (0:Nat)),(.int 0 (0:Nat)),(.int 3 (0:Nat)),(.ref (164:Nat)),(.bool true),(.int 181 (0:Nat)),(.ref (165:Nat)),.none,(.ref (166:Nat)),(.ref (167:Nat)),(.ref (168:Nat)),(.int 584 (0:Nat)),(.int 165 (0:Nat)),(.str "/claim/cut.py" (585:Nat))]),#[]⟩) ::
   (nat_lit 170,⟨(.type "function"),(@none Nat),(.func ⟨"_law_lengths","_law_lengths",a20,(.stmts b20),c20,(3:Nat),[],.none,.none,.none,(.str "law_uk0004_01" (532:Nat)),(@none Nat),(.ref (169:Nat)),.none,(0:Nat)⟩),#[]⟩) ::
   (nat_lit 171,⟨(.type "tuple"),(@none Nat),(.seq #[] (0:Nat)),#[]⟩) ::
   (nat_lit 174,⟨(.type "code"),(@none Nat),(.fields #[(.str "_law_order" (587:Nat)),(.str "_law_order" (588:Nat)),(.str "/claim/cut.py" (589:Nat)),(.int 186 (0:Nat)),(.int 2 (0:Nat)),(.int 0 (0:Nat)),(.int 0 (0:Nat)),(.int 3 (0:Nat)),(.ref (171:Nat)),(.bool true),(.int 181 (0:Nat)),(.ref (172:Nat)),.none,.none,.none,(.ref (173:Nat)),(.int 590 (0:Nat)),(.int 186 (0:Nat)),(.str "/claim/cut.py" (591:Nat))]),#[]⟩) ::
   (nat_lit 175,⟨(.type "function"),(@none Nat),(.func ⟨"_law_order","_law_order",a21,(.stmts b21),c21,(3:Nat),[],.none,.none,.none,(.str "law_uk0004_01" (532:Nat)),(@none Nat),(.ref (174:Nat)),.none,(0:Nat)⟩),#[]⟩) ::
   (nat_lit 176,⟨(.type "tuple"),(@none Nat),(.seq #[] (0:Nat)),#[]⟩) ::
   (nat_lit 178,⟨(.type "tuple"),(@none Nat),(.seq #[(.str "lengths" (596:Nat)),(.str "order" (597:Nat)),(.str "length" (598:Nat)),(.str "at" (599:Nat))] (0:Nat)),#[]⟩) ::
   (nat_lit 179,⟨(.type "tuple"),(@none Nat),(.seq #[(.str "lengths" (600:Nat))] (0:Nat)),#[]⟩) ::
   (nat_lit 181,⟨(.type "code"),(@none Nat),(.fields #[(.str "_law_firsts" (593:Nat)),(.str "_law_firsts" (594:Nat)),(.str "/claim/cut.py" (595:Nat)),(.int 197 (0:Nat)),(.int 2 (0:Nat)),(.int 0 (0:Nat)),(.int 0 (0:Nat)),(.int 3 (0:Nat)),(.ref (176:Nat)),(.bool true),(.int 181 (0:Nat)),(.ref (177:Nat)),.none,(.ref (178:Nat)),(.ref (179:Nat)),(.ref (180:Nat)),(.int 601 (0:Nat)),(.int 197 (0:Nat)),(.str "/claim/cut.py" (602:Nat))]),#[]⟩) ::
   (nat_lit 182,⟨(.type "function"),(@none Nat),(.func ⟨"_law_firsts","_law_firsts",a22,(.stmts b22),c22,(3:Nat),[],.none,.none,.none,(.str "law_uk0004_01" (532:Nat)),(@none Nat),(.ref (181:Nat)),.none,(0:Nat)⟩),#[]⟩) ::
   (nat_lit 183,⟨(.type "tuple"),(@none Nat),(.seq #[] (0:Nat)),#[]⟩) ::
   (nat_lit 185,⟨(.type "tuple"),(@none Nat),(.seq #[(.str "lengths" (607:Nat)),(.str "order" (608:Nat)),(.str "starts" (609:Nat)),(.str "place" (610:Nat))] (0:Nat)),#[]⟩) ::
   (nat_lit 186,⟨(.type "tuple"),(@none Nat),(.seq #[] (0:Nat)),#[]⟩) ::
   (nat_lit 188,⟨(.type "code"),(@none Nat),(.fields #[(.str "_law_starts" (604:Nat)),(.str "_law_starts" (605:Nat)),(.str "/claim/cut.py" (606:Nat)),(.int 203 (0:Nat)),(.int 2 (0:Nat)),(.int 0 (0:Nat)),(.int 0 (0:Nat)),(.int 3 (0:Nat)),(.ref (183:Nat)),(.bool true),(.int 181 (0:Nat)),(.ref (184:Nat)),.none,(.ref (185:Nat)),(.ref (186:Nat)),(.ref (187:Nat)),(.int 611 (0:Nat)),(.int 203 (0:Nat)),(.str "/claim/cut.py" (612:Nat))]),#[]⟩) ::
   (nat_lit 189,⟨(.type "function"),(@none Nat),(.func ⟨"_law_starts","_law_starts",a23,(.stmts b23),c23,(3:Nat),[],.none,.none,.none,(.str "law_uk0004_01" (532:Nat)),(@none Nat),(.ref (188:Nat)),.none,(0:Nat)⟩),#[]⟩) ::
   (nat_lit 190,⟨(.type "tuple"),(@none Nat),(.seq #[] (0:Nat)),#[]⟩) ::
   (nat_lit 192,⟨(.type "tuple"),(@none Nat),(.seq #[(.str "message" (617:Nat)),(.str "lengths" (618:Nat)),(.str "order" (619:Nat)),(.str "starts" (620:Nat)),(.str "number" (621:Nat)),(.str "size" (622:Nat)),(.str "place" (623:Nat)),(.str "word" (624:Nat))] (0:Nat)),#[]⟩) ::
   (nat_lit 193,⟨(.type "tuple"),(@none Nat),(.seq #[] (0:Nat)),#[]⟩) ::
   (nat_lit 195,⟨(.type "code"),(@none Nat),(.fields #[(.str "_law_written" (614:Nat)),(.str "_law_written" (615:Nat)),(.str "/claim/cut.py" (616:Nat)),(.int 208 (0:Nat)),(.int 4 (0:Nat)),(.int 0 (0:Nat)),(.int 0 (0:Nat)),(.int 3 (0:Nat)),(.ref (190:Nat)),(.bool true),(.int 181 (0:Nat)),(.ref (191:Nat)),.none,(.ref (192:Nat)),(.ref (193:Nat)),(.ref (194:Nat)),(.int 625 (0:Nat)),(.int 208 (0:Nat)),(.str "/claim/cut.py" (626:Nat))]),#[]⟩) ::
   (nat_lit 196,⟨(.type "function"),(@none Nat),(.func ⟨"_law_written","_law_written",a24,(.stmts b24),c24,(3:Nat),[],.none,.none,.none,(.str "law_uk0004_01" (532:Nat)),(@none Nat),(.ref (195:Nat)),.none,(0:Nat)⟩),#[]⟩) ::
   (nat_lit 197,⟨(.type "tuple"),(@none Nat),(.seq #[] (0:Nat)),#[]⟩) ::
   (nat_lit 200,⟨(.type "code"),(@none Nat),(.fields #[(.str "_law_due" (628:Nat)),(.str "_law_due" (629:Nat)),(.str "/claim/cut.py" (630:Nat)),(.int 216 (0:Nat)),(.int 2 (0:Nat)),(.int 0 (0:Nat)),(.int 0 (0:Nat)),(.int 3 (0:Nat)),(.ref (197:Nat)),(.bool true),(.int 181 (0:Nat)),(.ref (198:Nat)),.none,.none,.none,(.ref (199:Nat)),(.int 631 (0:Nat)),(.int 216 (0:Nat)),(.str "/claim/cut.py" (632:Nat))]),#[]⟩) ::
   (nat_lit 201,⟨(.type "function"),(@none Nat),(.func ⟨"_law_due","_law_due",a25,(.stmts b25),c25,(3:Nat),[],.none,.none,.none,(.str "law_uk0004_01" (532:Nat)),(@none Nat),(.ref (200:Nat)),.none,(0:Nat)⟩),#[]⟩) ::
   (nat_lit 202,⟨(.type "tuple"),(@none Nat),(.seq #[] (0:Nat)),#[]⟩) ::
   (nat_lit 204,⟨(.type "tuple"),(@none Nat),(.seq #[(.str "number" (637:Nat)),(.str "size" (638:Nat)),(.str "lengths" (639:Nat)),(.str "order" (640:Nat)),(.str "starts" (641:Nat)),(.str "symbols" (642:Nat)),(.str "padded" (643:Nat)),(.str "told" (644:Nat)),(.str "window" (645:Nat)),(.str "at" (646:Nat)),(.str "start" (647:Nat)),(.str "place" (648:Nat))] (0:Nat)),#[]⟩) ::
   (nat_lit 205,⟨(.type "tuple"),(@none Nat),(.seq #[] (0:Nat)),#[]⟩) ::
   (nat_lit 207,⟨(.type "code"),(@none Nat),(.fields #[(.str "_law_read" (634:Nat)),(.str "_law_read" (635:Nat)),(.str "/claim/cut.py" (636:Nat)),(.int 229 (0:Nat)),(.int 6 (0:Nat)),(.int 0 (0:Nat)),(.int 0 (0:Nat)),(.int 3 (0:Nat)),(.ref (202:Nat)),(.bool true),(.int 181 (0:Nat)),(.ref (203:Nat)),.none,(.ref (204:Nat)),(.ref (205:Nat)),(.ref (206:Nat)),(.int 649 (0:Nat)),(.int 229 (0:Nat)),(.str "/claim/cut.py" (650:Nat))]),#[]⟩) ::
   (nat_lit 208,⟨(.type "function"),(@none Nat),(.func ⟨"_law_read","_law_read",a26,(.stmts b26),c26,(3:Nat),[],.none,.none,.none,(.str "law_uk0004_01" (532:Nat)),(@none Nat),(.ref (207:Nat)),.none,(0:Nat)⟩),#[]⟩) ::
   (nat_lit 209,⟨(.type "tuple"),(@none Nat),(.seq #[] (0:Nat)),#[]⟩) ::
   (nat_lit 212,⟨(.type "code"),(@none Nat),(.fields #[(.str "law" (652:Nat)),(.str "law" (653:Nat)),(.str "/claim/cut.py" (654:Nat)),(.int 244 (0:Nat)),(.int 1 (0:Nat)),(.int 0 (0:Nat)),(.int 0 (0:Nat)),(.int 3 (0:Nat)),(.ref (209:Nat)),(.bool true),(.int 181 (0:Nat)),(.ref (210:Nat)),.none,.none,.none,(.ref (211:Nat)),(.int 655 (0:Nat)),(.int 244 (0:Nat)),(.str "/claim/cut.py" (656:Nat))]),#[]⟩) ::
   (nat_lit 213,⟨(.type "function"),(@none Nat),(.func ⟨"law","law",a27,(.stmts b27),c27,(3:Nat),[],.none,.none,.none,(.str "law_uk0004_01" (532:Nat)),(@none Nat),(.ref (212:Nat)),.none,(0:Nat)⟩),#[]⟩) :: [] : List (Nat × Obj))) _ _ _ _ _ _ _ _ _ _ _ _ _ _ _ _ _ _ _ _ _ _ _ _ _ _ _ _ _ _ _ _ _ _ _ _ _ _ _ _ _ _ _ _ _ _ _ _ _ _ _ _ _ _ _ _ _ _ _ _ _ _ _ _ _ _ _ _ _ _ _ _ _ _ _ _ _ _ _ _ _ _ _ _ rfl rfl rfl rfl rfl rfl rfl rfl rfl rfl rfl rfl rfl rfl rfl rfl rfl rfl rfl rfl rfl rfl rfl rfl rfl rfl rfl rfl
abbrev hKas : List Addr := [2,3,15,16,17,19,20,22,23,24,25,26,28,29,31,32,33,34,35,37,38,40,41,42,43,44,46,47,49,50,51,53,54,56,57,58,60,61,63,64,65,67,68,70,71,72,74,75,77,78,79,81,82,84,85,86,88,89,91,92,93,95,96,98,99,100,102,103,105,106,107,109,110,112,113,114,116,117,119,120,121,124,126,127,129,130,131,133,134,136,137,138,140,141,143,144,145,147,148,150,151,152,155,156,157,159,160,162,163,164,166,167,169,170,171,174,175,176,178,179,181,182,183,185,186,188,189,190,192,193,195,196,197,200,201,202,204,205,207,208,209,212,213]
theorem fillK (w : World) : (PySem.Challenge.rw_uk0004_01 = PySem.Challenge.rw_uk0004_01) ∧ (hd.heap_39 w.params = hd.heap_39 w.params) := by
  k_fill
  exact ⟨rfl, rfl⟩
local macro_rules | `(tactic| walk_at $s:str) => `(tactic| k_extra $s)
local macro_rules
  | `(tactic| intro $x:ident) => `(tactic| (k_extra "EPS1"; rename _ => $x:ident))
  | `(tactic| intro _) => `(tactic| k_extra "EPS1")
  | `(tactic| intro $x:term $y:term $ys:term*) => `(tactic| (k_extra "EPSON"; intro $x:term; intro $y:term $ys:term*))
local macro_rules | `(tactic| k_fold) => `(tactic| k_extra "EPSON")
local macro_rules | `(tactic| k_cells $Y:ident) => `(tactic| k_extra "EPSCELLS")
local macro_rules | `(tactic| k_all) => `(tactic| k_extra "k_all")
local macro_rules | `(tactic| passes_own) => `(tactic| k_extra "passes_own")
local macro_rules | `(tactic| k_room) => `(tactic| ktr_room)
local macro_rules | `(tactic| k_mem) => `(tactic| k_extra "k_mem")
local macro_rules | `(tactic| k_ne) => `(tactic| k_extra "k_ne")
local macro_rules | `(tactic| ktr_room) => `(tactic| k_extra "ktr_room")
local macro_rules | `(tactic| ktr_units) => `(tactic| k_extra "ktr_units")
section
/-- a binary search as the text makes it: up mid says whether the left end is moved -/
def bis (up : Nat → Bool) : Nat → Nat → Nat → Nat
  | 0, lo, _ => lo
  | f + 1, lo, hi => if lo < hi then (if up ((lo + hi) / 2) then bis up f ((lo + hi) / 2 + 1) hi else bis up f lo ((lo + hi) / 2)) else lo
def bisN (up : Nat → Bool) (lo hi : Nat) : Nat := bis up (hi - lo) lo hi
theorem mid_lo {lo hi : Nat} (h : lo < hi) : lo ≤ (lo + hi) / 2 := by omega
theorem mid_hi {lo hi : Nat} (h : lo < hi) : (lo + hi) / 2 < hi := by omega
theorem meas_up {lo hi m f : Nat} (h : hi - lo ≤ f + 1) (l : lo ≤ m) : hi - (m + 1) ≤ f := by omega
theorem meas_dn {lo hi m f : Nat} (h : hi - lo ≤ f + 1) (l : m < hi) : m - lo ≤ f := by omega
theorem not_lt_of {lo hi : Nat} (h : hi - lo ≤ 0) : ¬ lo < hi := Nat.not_lt.mpr (Nat.le_of_sub_eq_zero (Nat.le_zero.mp h))
theorem bis_not (up : Nat → Bool) : ∀ (f lo hi : Nat), ¬ lo < hi → bis up f lo hi = lo
  | 0, _, _, _ => rfl
  | _ + 1, _, _, h => if_neg h
theorem bis_fuel (up : Nat → Bool) : ∀ (f g lo hi : Nat), hi - lo ≤ f → hi - lo ≤ g → bis up f lo hi = bis up g lo hi
  | 0, g, lo, hi, h1, _ => (bis_not up g lo hi (not_lt_of h1)).symm
  | f + 1, 0, lo, hi, _, h2 => bis_not up (f + 1) lo hi (not_lt_of h2)
  | f + 1, g + 1, lo, hi, h1, h2 => by
    unfold bis
    by_cases h : lo < hi
    · rw [if_pos h, if_pos h, bis_fuel up f g _ _ (meas_up h1 (mid_lo h)) (meas_up h2 (mid_lo h)), bis_fuel up f g _ _ (meas_dn h1 (mid_hi h)) (meas_dn h2 (mid_hi h))]
    · rw [if_neg h, if_neg h]
theorem bisN_step (up : Nat → Bool) {lo hi : Nat} (h : lo < hi) : bisN up lo hi = if up ((lo + hi) / 2) then bisN up ((lo + hi) / 2 + 1) hi else bisN up lo ((lo + hi) / 2) := by
  unfold bisN
  obtain ⟨f, hf⟩ := Nat.exists_eq_succ_of_ne_zero (Nat.sub_ne_zero_of_lt h)
  rw [hf, bis, if_pos h, bis_fuel up _ f ((lo + hi) / 2 + 1) hi (Nat.le_refl _) (meas_up (Nat.le_of_eq hf) (mid_lo h)), bis_fuel up _ f lo ((lo + hi) / 2) (Nat.le_refl _) (meas_dn (Nat.le_of_eq hf) (mid_hi h))]
theorem bisN_done (up : Nat → Bool) {lo hi : Nat} (h : ¬ lo < hi) : bisN up lo hi = lo := by
  exact bis_not up _ lo hi h
/-- what holds between the search's turns -/
def BisW (up : Nat → Bool) (n : Nat) (lo hi : Int) : Prop := 0 ≤ lo ∧ lo ≤ hi ∧ hi ≤ (n : Int) ∧ bisN up lo.toNat hi.toNat = bisN up 0 n
theorem BisW.start (up : Nat → Bool) (n : Nat) : BisW up n 0 (n : Int) := ⟨by omega, by omega, by omega, by simp⟩
theorem mid_nat {lo hi : Int} (h0 : 0 ≤ lo) (h1 : lo ≤ hi) : (Int.fdiv (lo + hi) 2).toNat = (lo.toNat + hi.toNat) / 2 := by
  obtain ⟨a, rfl⟩ := Int.eq_ofNat_of_zero_le h0
  obtain ⟨b, rfl⟩ := Int.eq_ofNat_of_zero_le (Int.le_trans h0 h1)
  exact congrArg Int.toNat (Int.ofNat_fdiv (a + b) 2).symm
theorem mid_bounds {up : Nat → Bool} {n : Nat} {lo hi : Int} (h : BisW up n lo hi) (hlt : lo < hi) : 0 ≤ Int.fdiv (lo + hi) 2 ∧ lo ≤ Int.fdiv (lo + hi) 2 ∧ Int.fdiv (lo + hi) 2 < hi ∧ Int.fdiv (lo + hi) 2 < (n : Int) := by
  obtain ⟨a, b, c, _⟩ := h
  rw [Int.fdiv_eq_ediv_of_nonneg _ (by decide)]
  omega
theorem BisW.up {up : Nat → Bool} {n : Nat} {lo hi : Int} (h : BisW up n lo hi) (hlt : lo < hi) (hu : up (Int.fdiv (lo + hi) 2).toNat = true) : BisW up n (Int.fdiv (lo + hi) 2 + 1) hi := by
  have hm := mid_bounds h hlt
  obtain ⟨a, b, c, d⟩ := h
  refine ⟨by omega, by omega, c, ?_⟩
  rw [← d, bisN_step up (lo := lo.toNat) (hi := hi.toNat) (by omega), ← mid_nat a b, if_pos hu]
  congr 1
  omega
theorem BisW.down {up : Nat → Bool} {n : Nat} {lo hi : Int} (h : BisW up n lo hi) (hlt : lo < hi) (hu : up (Int.fdiv (lo + hi) 2).toNat = false) : BisW up n lo (Int.fdiv (lo + hi) 2) := by
  have hm := mid_bounds h hlt
  obtain ⟨a, b, c, d⟩ := h
  refine ⟨by omega, by omega, by omega, ?_⟩
  rw [← d, bisN_step up (lo := lo.toNat) (hi := hi.toNat) (by omega), ← mid_nat a b, if_neg (by rw [hu]; decide)]
theorem BisW.fin {up : Nat → Bool} {n : Nat} {lo hi : Int} (h : BisW up n lo hi) (hlt : ¬ lo < hi) : lo = (bisN up 0 n : Nat) := by
  obtain ⟨a, b, c, d⟩ := h
  rw [← d, bisN_done up (by omega)]
  omega
theorem bis_meas1 {up : Nat → Bool} {n : Nat} {lo hi : Int} (h : BisW up n lo hi) (hlt : lo < hi) : (Int.fdiv (lo + hi) 2 - lo).toNat < (hi - lo).toNat := by
  have hm := mid_bounds h hlt
  omega
theorem bis_meas2 {up : Nat → Bool} {n : Nat} {lo hi : Int} (h : BisW up n lo hi) (hlt : lo < hi) : (hi - (Int.fdiv (lo + hi) 2 + 1)).toNat < (hi - lo).toNat := by
  have hm := mid_bounds h hlt
  omega
theorem bis_le (up : Nat → Bool) : ∀ (f lo hi : Nat), lo ≤ hi → bis up f lo hi ≤ hi
  | 0, lo, hi, h => h
  | f + 1, lo, hi, h => by
    unfold bis
    by_cases hl : lo < hi
    · rw [if_pos hl]
      by_cases hu : up ((lo + hi) / 2) = true
      · rw [if_pos hu]; exact bis_le up f _ _ (mid_hi hl)
      · rw [if_neg hu]; exact Nat.le_trans (bis_le up f _ _ (mid_lo hl)) (Nat.le_of_lt (mid_hi hl))
    · rw [if_neg hl]; exact h
theorem bisN_le (up : Nat → Bool) (n : Nat) : bisN up 0 n ≤ n := bis_le up _ _ _ (Nat.zero_le _)
/-- x laid in ahead of the place r -/
def insAt {α : Type} (r : Nat) (x : α) (xs : List α) : List α := xs.take r ++ x :: xs.drop r
theorem insAt_length {α : Type} (r : Nat) (x : α) (xs : List α) : (insAt r x xs).length = xs.length + 1 := by
  unfold insAt
  rw [List.length_append, List.length_cons, List.length_take, List.length_drop]
  omega

end
section
/-- the counter of made values never falls -/
theorem runs_grow {M : Model} {Γ : Ctx} {p : Pos} {t : Sem PySem.Fin} {fs : List Frame} {s s' : Shared} {e : End} (h : Runs M Γ p t fs s e s') : s.toks ≤ s'.toks := by
  induction h <;> first
    | exact Nat.le_refl _
    | assumption
    | (rename_i ih; exact Nat.le_of_succ_le ih)
    | (rename_i ih1 ih2; exact Nat.le_trans ih1 ih2)
    | (rename_i ih; exact ih)
theorem wakes_grow {M : Model} {Γ : Ctx} {p : Pos} {g : Nat} {r : Resume} {s s' : Shared} {res : GenResult} (h : Wakes M Γ p g r s res s') : s.toks ≤ s'.toks := by
  unfold Wakes at h
  split at h
  · exact h.elim
  · split at h
    · obtain ⟨e, s₁, hr, _, _, rfl⟩ := h
      have q := runs_grow hr; exact q
    · obtain ⟨_, rfl⟩ := h; exact Nat.le_refl _
    · obtain ⟨_, rfl⟩ := h; exact Nat.le_refl _
  · obtain ⟨e, s₁, hr, _, _, rfl⟩ := h
    have q := runs_grow hr; exact q
  · obtain ⟨_, rfl⟩ := h; exact Nat.le_refl _
  · obtain ⟨_, rfl⟩ := h; exact Nat.le_refl _
theorem wp_grow {α : Type} {M : Model} {Γ : Ctx} {n : Nat} {Q : α → Pos → Shared → Prop} {E : Value → Pos → Shared → Prop} (t : Sem α) {p : Pos} {s : Shared} (hn : n ≤ s.toks) (h : Sem.wp M Γ t Q E p s) :
    Sem.wp M Γ t (fun a p' s' => n ≤ s'.toks ∧ Q a p' s') (fun e p' s' => n ≤ s'.toks ∧ E e p' s') p s := by
  revert h
  induction t generalizing p s with
  | pure x => exact fun h => ⟨hn, h⟩
  | raise v => exact fun h => ⟨hn, h⟩
  | unsupported | finish | yield | fork | await | register => exact id
  | rule _ k ih | «at» _ k ih | alloc _ k ih | loadIfAlive _ k ih | point _ k ih | ask k ih | os _ _ k ih | handled _ k ih | newGen _ k ih | stack k ih | thread k ih => exact ih _ hn
  | fresh k ih => exact ih _ (Nat.le_succ_of_le hn)
  | load a _ k ih | genState a k ih => exact fun ⟨o, ho, h⟩ => ⟨o, ho, ih _ hn h⟩
  | update a _ f k ih | choose _ _ k ih => exact fun ⟨ha, h⟩ => ⟨ha, ih _ hn h⟩
  | call c h g l k ih => exact fun ⟨r, s', hr, hk⟩ => ⟨r, s', hr, ih r (Nat.le_trans hn (runs_grow hr)) hk⟩
  | resume g r l k ih => exact fun ⟨res, s', hw, h⟩ => ⟨res, s', hw, ih _ (Nat.le_trans hn (wakes_grow hw)) h⟩
/-- what is shown of an end may lean on the counter's growth -/
theorem wpAny_grow {α : Type} {M : Model} {A : Around} {t : Sem α} {Q : α → Shared → Prop} {E : Value → Shared → Prop} {s : Shared} (h : wpAny M A t (fun a s' => s.toks ≤ s'.toks → Q a s') E s) : wpAny M A t Q E s := fun Γ p hΓ =>
  Sem.wp_mono M Γ t (fun _ _ _ x => x.2 x.1) (fun _ _ _ x => x.2) p s (wp_grow t (Nat.le_refl _) (h Γ p hΓ))
/-- what is shown where the counter has grown from a to b -/
def Grown (a b : Nat) (P : Prop) : Prop := a ≤ b → P
theorem Grown.intro {a b : Nat} {P : Prop} (h : a ≤ b → P) : Grown a b P := h
theorem execs_grow {M : Model} {A : Around} {env : Env} {st : Stmt} {rest : List Stmt} {Q : Flow → Shared → Prop} {E : Value → Shared → Prop} {s : Shared}
    (h : wpAny M A (exec st env) (fun f s' => match f with | .next => Grown s.toks s'.toks (wpAny M A (execs rest env) Q E s') | f => Q f s') E s) : wpAny M A (execs (st :: rest) env) Q E s :=
  wpAny_execs_cons (wpAny_grow (wpAny_mono h (fun f _ hf hle => match f, hf with
    | .next, hf => hf hle
    | .brk, hf => hf
    | .cont, hf => hf
    | .ret _, hf => hf) fun _ _ e => e))

end
section
/-- two lists, item by item -/
inductive All2 {α β : Type} (R : α → β → Prop) : List α → List β → Prop
  | nil : All2 R [] []
  | cons {x : α} {y : β} {xs : List α} {ys : List β} : R x y → All2 R xs ys → All2 R (x :: xs) (y :: ys)
namespace All2
variable {α β : Type} {R R' : α → β → Prop} {xs xs' : List α} {ys ys' : List β}
theorem length (h : All2 R xs ys) : xs.length = ys.length := by
  induction h with
  | nil => rfl
  | cons _ _ ih => rw [List.length_cons, List.length_cons, ih]
theorem mono (h : All2 R xs ys) (k : ∀ x y, R x y → R' x y) : All2 R' xs ys := by
  induction h with
  | nil => exact .nil
  | cons a _ ih => exact .cons (k _ _ a) ih
theorem app (h : All2 R xs ys) (k : All2 R xs' ys') : All2 R (xs ++ xs') (ys ++ ys') := by
  induction h with
  | nil => exact k
  | cons a _ ih => exact .cons a ih
theorem take (h : All2 R xs ys) : ∀ n : Nat, All2 R (xs.take n) (ys.take n) := by
  induction h with
  | nil => intro n; simp; exact .nil
  | cons a _ ih =>
    intro n
    cases n with
    | zero => exact .nil
    | succ n => exact .cons a (ih n)
theorem drop (h : All2 R xs ys) : ∀ n : Nat, All2 R (xs.drop n) (ys.drop n) := by
  induction h with
  | nil => intro n; simp; exact .nil
  | cons a r ih =>
    intro n
    cases n with
    | zero => exact .cons a r
    | succ n => exact ih n
theorem ins (h : All2 R xs ys) {x : α} {y : β} (a : R x y) (n : Nat) : All2 R (insAt n x xs) (insAt n y ys) := (h.take n).app (.cons a (h.drop n))
theorem get (h : All2 R xs ys) : ∀ {i : Nat} {x : α}, xs[i]? = some x → ∃ y, ys[i]? = some y ∧ R x y := by
  induction h with
  | nil => intro i x e; simp at e
  | cons a _ ih =>
    intro i x e
    cases i with
    | zero => simp at e; exact ⟨_, rfl, e ▸ a⟩
    | succ i => exact ih (by simpa using e)
theorem uncons (h : All2 R xs ys) {n : Nat} (e : ys.length = n + 1) : ∃ x xs' y ys', xs = x :: xs' ∧ ys = y :: ys' ∧ R x y ∧ All2 R xs' ys' ∧ ys'.length = n := by
  cases h with
  | nil => simp at e
  | cons a r => exact ⟨_, _, _, _, rfl, rfl, a, r, by simpa using e⟩
end All2
/-- an entry of the line: a weight, the places below it -/
abbrev Ent := Int × List Int
/-- an entry laid in by its weight, behind (b) or ahead of all of like weight -/
def insE (b : Bool) (e : Ent) (es : List Ent) : List Ent := insAt (bisN (fun i => if b then decide ((es.getD i (0, [])).1 ≤ e.1) else decide ((es.getD i (0, [])).1 < e.1)) 0 es.length) e es
theorem insE_length (b : Bool) (e : Ent) (es : List Ent) : (insE b e es).length = es.length + 1 := insAt_length _ _ _

end
section
/-- one more at every place named -/
def bumpAll (ls ps : List Int) : List Int := ps.foldl (fun ls p => ls.set p.toNat (ls.getD p.toNat 0 + 1)) ls
theorem bumpAll_length (ps : List Int) : ∀ ls : List Int, (bumpAll ls ps).length = ls.length := by
  induction ps with
  | nil => intro ls; rfl
  | cons p r ih => intro ls; show (bumpAll _ r).length = _; rw [ih, List.length_set]
theorem bumpAll_snoc (ls ps : List Int) (p : Int) : bumpAll ls (ps ++ [p]) = (bumpAll ls ps).set p.toNat ((bumpAll ls ps).getD p.toNat 0 + 1) := by
  unfold bumpAll
  rw [List.foldl_append]
  rfl
/-- the line's turns: the two foremost go, their sum is laid in -/
def huffGo (b : Bool) : Nat → List Ent → List Int → List Int
  | f + 1, one :: two :: rest, ls => huffGo b f (insE b (one.1 + two.1, one.2 ++ two.2) rest) (bumpAll ls (one.2 ++ two.2))
  | _, _, ls => ls
def huff (b : Bool) (es : List Ent) (ls : List Int) : List Int := huffGo b es.length es ls
theorem huff_step (b : Bool) (one two : Ent) (rest : List Ent) (ls : List Int) :
    huff b (one :: two :: rest) ls = huff b (insE b (one.1 + two.1, one.2 ++ two.2) rest) (bumpAll ls (one.2 ++ two.2)) := by
  unfold huff
  rw [insE_length]
  rfl
theorem huff_done (b : Bool) (es : List Ent) (ls : List Int) (h : es.length < 2) : huff b es ls = ls := by
  unfold huff
  match es, h with
  | [], _ => rfl
  | [_], _ => rfl
/-- all places lie in the five -/
def GoodEs (es : List Ent) : Prop := ∀ e ∈ es, ∀ p ∈ e.2, 0 ≤ p ∧ p < 5
theorem insAt_mem {α : Type} {r : Nat} {x y : α} {xs : List α} (h : y ∈ insAt r x xs) : y = x ∨ y ∈ xs := by
  unfold insAt at h
  rcases List.mem_append.mp h with h | h
  · exact .inr (List.mem_of_mem_take h)
  · rcases List.mem_cons.mp h with h | h
    · exact .inl h
    · exact .inr (List.mem_of_mem_drop h)
theorem GoodEs.ins {b : Bool} {e : Ent} {es : List Ent} (h : GoodEs es) (he : ∀ p ∈ e.2, 0 ≤ p ∧ p < 5) : GoodEs (insE b e es) := fun x hx => by
  rcases insAt_mem hx with rfl | hx
  · exact he
  · exact h x hx
/-- the first line: the five weights, laid in one by one -/
def line5 (b : Bool) (ws : List Int) : List Ent := [0, 1, 2, 3, 4].foldl (fun es (k : Int) => insE b (ws.getD k.toNat 0, [k]) es) []
/-- the lengths that the text's Huffman gives -/
def lens (b : Bool) (ws : List Int) : List Int := huff b (line5 b ws) [0, 0, 0, 0, 0]
/-- how many places the line bears -/
def plCount (es : List Ent) : Nat := (es.map fun e => e.2.length).sum
theorem plCount_cons (e : Ent) (es : List Ent) : plCount (e :: es) = e.2.length + plCount es := by simp [plCount]
theorem plCount_ins (b : Bool) (e : Ent) (es : List Ent) : plCount (insE b e es) = e.2.length + plCount es := by
  unfold insE insAt
  generalize bisN _ 0 es.length = r
  have h : plCount es = plCount (es.take r) + plCount (es.drop r) := by
    unfold plCount
    rw [← List.sum_append, ← List.map_append, List.take_append_drop]
  rw [h]
  simp only [plCount, List.map_append, List.map_cons, List.sum_append, List.sum_cons]
  omega
theorem goodEs_nil : GoodEs [] := fun _ h => nomatch h
theorem plCount_nil : plCount [] = 0 := rfl

end
section
/-- the search finds the border of what is up -/
theorem bis_spec (up : Nat → Bool) (n : Nat) (hm : ∀ i j, i < j → j < n → up j = true → up i = true) : ∀ (f lo hi : Nat), lo ≤ hi → hi ≤ n → hi - lo ≤ f → (∀ i, i < lo → up i = true) → (∀ i, hi ≤ i → i < n → up i = false) →
    (∀ i, i < bis up f lo hi → up i = true) ∧ ∀ i, bis up f lo hi ≤ i → i < n → up i = false
  | 0, lo, hi, h1, h2, h3, a, b => ⟨a, fun i hi' => b i (Nat.le_trans (Nat.le_of_not_lt (not_lt_of h3)) hi')⟩
  | f + 1, lo, hi, h1, h2, h3, a, b => by
    unfold bis
    by_cases hl : lo < hi
    · rw [if_pos hl]
      cases hu : up ((lo + hi) / 2) with
      | true =>
        simp only [if_true]
        refine bis_spec up n hm f _ _ (mid_hi hl) h2 (meas_up h3 (mid_lo hl)) (fun i hi' => ?_) b
        rcases Nat.lt_or_eq_of_le (Nat.le_of_lt_succ hi') with h | h
        · exact hm i _ h (Nat.lt_of_lt_of_le (mid_hi hl) h2) hu
        · rw [h]; exact hu
      | false =>
        simp only [Bool.false_eq_true, if_false]
        refine bis_spec up n hm f _ _ (mid_lo hl) (Nat.le_of_lt (Nat.lt_of_lt_of_le (mid_hi hl) h2)) (meas_dn h3 (mid_hi hl)) a (fun i h4 h5 => ?_)
        rcases Nat.lt_or_eq_of_le h4 with h | h
        · cases e : up i with
          | false => rfl
          | true => have := hm _ i h h5 e; rw [hu] at this; exact nomatch this
        · rw [← h]; exact hu
    · rw [if_neg hl]
      exact ⟨a, fun i h4 h5 => b i (Nat.le_trans (Nat.le_of_not_lt hl) h4) h5⟩
theorem bisN_spec {up : Nat → Bool} {n : Nat} (hm : ∀ i j, i < j → j < n → up j = true → up i = true) : (∀ i, i < bisN up 0 n → up i = true) ∧ ∀ i, bisN up 0 n ≤ i → i < n → up i = false :=
  bis_spec up n hm _ 0 n (Nat.zero_le _) (Nat.le_refl _) (Nat.le_refl _) (fun _ h => absurd h (Nat.not_lt_zero _)) fun i h h' => absurd h (Nat.not_le.mpr h')
theorem insAt_perm {α : Type} (r : Nat) (x : α) (xs : List α) : (insAt r x xs).Perm (x :: xs) := by
  unfold insAt
  refine List.perm_middle.trans ?_
  rw [List.take_append_drop]
abbrev SortE (es : List Ent) : Prop := List.Pairwise (fun a b => a.1 ≤ b.1) es
theorem insE_sorted {b : Bool} {e : Ent} {es : List Ent} (h : SortE es) : SortE (insE b e es) := by
  have hp := List.pairwise_iff_getElem.mp h
  have hg : ∀ i (hi : i < es.length), es.getD i (0, []) = es[i] := fun i hi => by simp [List.getElem?_eq_getElem hi]
  have hm : ∀ i j, i < j → j < es.length → (fun i => if b then decide ((es.getD i (0, [])).1 ≤ e.1) else decide ((es.getD i (0, [])).1 < e.1)) j = true → (fun i => if b then decide ((es.getD i (0, [])).1 ≤ e.1) else decide ((es.getD i (0, [])).1 < e.1)) i = true := by
    intro i j hij hj
    have := hp i j (by omega) hj hij
    dsimp only
    rw [hg i (by omega), hg j hj]
    cases b <;> simp <;> omega
  obtain ⟨s1, s2⟩ := bisN_spec hm
  unfold insE insAt
  generalize bisN _ 0 es.length = r at s1 s2
  refine List.pairwise_append.mpr ⟨h.sublist (List.take_sublist _ _), List.pairwise_cons.mpr ⟨fun y hy => ?_, h.sublist (List.drop_sublist _ _)⟩, fun x hx y hy => ?_⟩
  · obtain ⟨i, hi, rfl⟩ := List.getElem_of_mem hy
    rw [List.length_drop] at hi
    rw [List.getElem_drop]
    have := s2 (r + i) (by omega) (by omega)
    rw [hg (r + i) (by omega)] at this
    cases b <;> simp at this <;> omega
  · obtain ⟨i, hi, rfl⟩ := List.getElem_of_mem hx
    rw [List.length_take] at hi
    rw [List.getElem_take]
    have h1 := s1 i (by omega)
    rw [hg i (by omega)] at h1
    rcases List.mem_cons.mp hy with rfl | hy
    · cases b <;> simp at h1 <;> omega
    · obtain ⟨j, hj, rfl⟩ := List.getElem_of_mem hy
      rw [List.length_drop] at hj
      rw [List.getElem_drop]
      exact hp i (r + j) (by omega) (by omega) (by omega)
theorem insE_perm (b : Bool) (e : Ent) (es : List Ent) : (insE b e es).Perm (e :: es) := insAt_perm _ _ _
/-- the first line: sorted, and all five -/
theorem line5_sorted (b : Bool) (ws : List Int) : SortE (line5 b ws) := by
  unfold line5
  simp only [List.foldl_cons, List.foldl_nil]
  exact insE_sorted (insE_sorted (insE_sorted (insE_sorted (insE_sorted List.Pairwise.nil))))
theorem line5_perm (b : Bool) (ws : List Int) : (line5 b ws).Perm ([0, 1, 2, 3, 4].map fun k : Int => ((ws.getD k.toNat 0, [k]) : Ent)) := by
  unfold line5
  simp only [List.foldl_cons, List.foldl_nil, List.map_cons, List.map_nil]
  have key : ∀ (a : Ent) (l es : List Ent), es.Perm l → (insE b a es).Perm (a :: l) := fun a l es h => (insE_perm b a es).trans (h.cons a)
  refine (key _ _ _ (key _ _ _ (key _ _ _ (key _ _ _ (key _ _ _ (List.Perm.refl _)))))).trans ?_
  exact (List.reverse_perm _).symm.trans (by simp)

end
section
/-- all the places that the turns name -/
def huffQ (b : Bool) : Nat → List Ent → List Int
  | f + 1, one :: two :: rest => (one.2 ++ two.2) ++ huffQ b f (insE b (one.1 + two.1, one.2 ++ two.2) rest)
  | _, _ => []
theorem bumpAll_append (ls ps qs : List Int) : bumpAll ls (ps ++ qs) = bumpAll (bumpAll ls ps) qs := by
  unfold bumpAll
  rw [List.foldl_append]
theorem huffGo_eq (b : Bool) : ∀ (f : Nat) (es : List Ent) (ls : List Int), huffGo b f es ls = bumpAll ls (huffQ b f es)
  | 0, es, ls => rfl
  | f + 1, [], ls => rfl
  | f + 1, [_], ls => rfl
  | f + 1, one :: two :: rest, ls => by
    show huffGo b f (insE b (one.1 + two.1, one.2 ++ two.2) rest) (bumpAll ls (one.2 ++ two.2)) = bumpAll ls ((one.2 ++ two.2) ++ huffQ b f (insE b (one.1 + two.1, one.2 ++ two.2) rest))
    rw [huffGo_eq b f]
    exact (bumpAll_append _ _ _).symm
/-- the places by other names -/
def ren (σ : Int → Int) (e : Ent) : Ent := (e.1, e.2.map σ)
theorem insAt_map {α β : Type} (g : α → β) (r : Nat) (x : α) (xs : List α) : (insAt r x xs).map g = insAt r (g x) (xs.map g) := by
  unfold insAt
  rw [List.map_append, List.map_cons, List.map_take, List.map_drop]
theorem insE_ren (b : Bool) (σ : Int → Int) (e : Ent) (es : List Ent) : insE b (ren σ e) (es.map (ren σ)) = (insE b e es).map (ren σ) := by
  unfold insE
  rw [insAt_map, List.length_map]
  have h : ∀ i, ((es.map (ren σ)).getD i (0, [])).1 = (es.getD i (0, [])).1 := fun i => by
    rw [List.getD_eq_getElem?_getD, List.getD_eq_getElem?_getD, List.getElem?_map]
    cases es[i]? with
    | none => rfl
    | some e => rfl
  simp only [h]
  rfl
theorem huffQ_ren (b : Bool) (σ : Int → Int) : ∀ (f : Nat) (es : List Ent), huffQ b f (es.map (ren σ)) = (huffQ b f es).map σ
  | 0, es => rfl
  | f + 1, [] => rfl
  | f + 1, [_] => rfl
  | f + 1, one :: two :: rest => by
    show ((one.2.map σ) ++ (two.2.map σ)) ++ huffQ b f (insE b (one.1 + two.1, one.2.map σ ++ two.2.map σ) (rest.map (ren σ))) = ((one.2 ++ two.2) ++ huffQ b f (insE b (one.1 + two.1, one.2 ++ two.2) rest)).map σ
    have e : ((one.1 + two.1, one.2.map σ ++ two.2.map σ) : Ent) = ren σ (one.1 + two.1, one.2 ++ two.2) := by
      unfold ren
      rw [List.map_append]
    rw [e, insE_ren, huffQ_ren b σ f, List.map_append, List.map_append]
/-- 1 where like weights stand ahead, else 0 -/
def tt (b : Bool) : Int := if b then 1 else 0
theorem tt_bd (b : Bool) : 0 ≤ tt b ∧ tt b ≤ 1 := by cases b <;> decide
theorem tt_up (b : Bool) (a e : Int) : (if b then decide (a ≤ e) else decide (a < e)) = decide (a < e + tt b) := by
  cases b
  · exact (congrArg (fun x => decide (a < x)) (Int.add_zero e)).symm
  · exact decide_eq_decide.mpr Int.lt_add_one_iff.symm
theorem insE_tt (b : Bool) (e : Ent) (es : List Ent) : insE b e es = insAt (bisN (fun i => decide ((es.getD i (0, [])).1 < e.1 + tt b)) 0 es.length) e es := by
  unfold insE
  simp only [tt_up]
theorem insE1 (b : Bool) (e p : Ent) : insE b e [p] = if p.1 < e.1 + tt b then [p, e] else [e, p] := by
  rw [insE_tt]
  by_cases h : p.1 < e.1 + tt b <;> simp [bisN, bis, insAt, h]
theorem insE2 (b : Bool) (e p q : Ent) : insE b e [p, q] = if q.1 < e.1 + tt b then [p, q, e] else if p.1 < e.1 + tt b then [p, e, q] else [e, p, q] := by
  rw [insE_tt]
  by_cases h : q.1 < e.1 + tt b
  · simp [bisN, bis, insAt, h]
  · by_cases h2 : p.1 < e.1 + tt b <;> simp [bisN, bis, insAt, h, h2]
theorem insE3 (b : Bool) (e p q r : Ent) : insE b e [p, q, r] = if q.1 < e.1 + tt b then (if r.1 < e.1 + tt b then [p, q, r, e] else [p, q, e, r]) else if p.1 < e.1 + tt b then [p, e, q, r] else [e, p, q, r] := by
  rw [insE_tt]
  by_cases h : q.1 < e.1 + tt b
  · by_cases h3 : r.1 < e.1 + tt b <;> simp [bisN, bis, insAt, h, h3]
  · by_cases h2 : p.1 < e.1 + tt b <;> simp [bisN, bis, insAt, h, h2]
/-- the five in order, under plain names -/
def canon (x0 x1 x2 x3 x4 : Int) : List Ent := [(x0, [0]), (x1, [1]), (x2, [2]), (x3, [3]), (x4, [4])]
def cnt (q : List Int) : List Nat := [q.count 0, q.count 1, q.count 2, q.count 3, q.count 4]
/-- what comes of the five: one of four, and how dear each is -/
inductive Four (b : Bool) (x0 x1 x2 x3 x4 : Int) : List Nat → Prop
  | flat : (∀ c, c = x4 + 3 * (x0 + x1 + x2 + x3) ∨ c = x4 + 2 * x3 + 3 * x2 + 4 * (x0 + x1) → if b then 2 * (x2 + x3 + x4) + 3 * (x0 + x1) ≤ c else 2 * (x2 + x3 + x4) + 3 * (x0 + x1) < c) → Four b x0 x1 x2 x3 x4 [3, 3, 2, 2, 2]
  | flat' : (x0 = x1 ∧ x1 = x2 ∧ x2 = x3) → (∀ c, c = x4 + 3 * (x0 + x1 + x2 + x3) ∨ c = x4 + 2 * x3 + 3 * x2 + 4 * (x0 + x1) → if b then 2 * (x2 + x3 + x4) + 3 * (x0 + x1) ≤ c else 2 * (x2 + x3 + x4) + 3 * (x0 + x1) < c) → Four b x0 x1 x2 x3 x4 [2, 2, 3, 3, 2]
  | mid : (if b then x4 + 3 * (x0 + x1 + x2 + x3) < 2 * (x2 + x3 + x4) + 3 * (x0 + x1) ∧ x4 + 3 * (x0 + x1 + x2 + x3) ≤ x4 + 2 * x3 + 3 * x2 + 4 * (x0 + x1) else x4 + 3 * (x0 + x1 + x2 + x3) ≤ 2 * (x2 + x3 + x4) + 3 * (x0 + x1) ∧ x4 + 3 * (x0 + x1 + x2 + x3) < x4 + 2 * x3 + 3 * x2 + 4 * (x0 + x1)) → Four b x0 x1 x2 x3 x4 [3, 3, 3, 3, 1]
  | steep : (∀ c, c = x4 + 3 * (x0 + x1 + x2 + x3) ∨ c = 2 * (x2 + x3 + x4) + 3 * (x0 + x1) → if b then x4 + 2 * x3 + 3 * x2 + 4 * (x0 + x1) < c else x4 + 2 * x3 + 3 * x2 + 4 * (x0 + x1) ≤ c) → Four b x0 x1 x2 x3 x4 [4, 4, 3, 2, 1]
theorem tt_flat {b : Bool} {A B C : Int} (h1 : A < B + tt b) (h2 : A < C + tt b) : ∀ c, c = B ∨ c = C → if b then A ≤ c else A < c := fun c hc => by
  cases b with
  | true => exact Int.lt_add_one_iff.mp (hc.elim (fun e => e ▸ h1) fun e => e ▸ h2)
  | false => exact hc.elim (fun e => e ▸ Int.add_zero B ▸ h1) fun e => e ▸ Int.add_zero C ▸ h2
theorem tt_steep {b : Bool} {A B C : Int} (h1 : A + tt b ≤ B) (h2 : A + tt b ≤ C) : ∀ c, c = B ∨ c = C → if b then A < c else A ≤ c := fun c hc => by
  cases b with
  | true => exact hc.elim (fun e => e ▸ h1) fun e => e ▸ h2
  | false => exact hc.elim (fun e => e ▸ Int.add_zero A ▸ h1) fun e => e ▸ Int.add_zero A ▸ h2
theorem tt_mid {b : Bool} {A B C : Int} (h1 : B + tt b ≤ A) (h2 : B < C + tt b) : if b then B < A ∧ B ≤ C else B ≤ A ∧ B < C := by
  cases b with
  | true => exact ⟨h1, Int.lt_add_one_iff.mp h2⟩
  | false => exact ⟨Int.add_zero B ▸ h1, Int.add_zero C ▸ h2⟩
theorem canon_four (b : Bool) {x0 x1 x2 x3 x4 : Int} (h1 : x0 ≤ x1) (h2 : x1 ≤ x2) (h3 : x2 ≤ x3) (h4 : x3 ≤ x4) : Four b x0 x1 x2 x3 x4 (cnt (huffQ b 5 (canon x0 x1 x2 x3 x4))) := by
  obtain ⟨t0, t1⟩ := tt_bd b
  have fl := @Four.flat b x0 x1 x2 x3 x4
  have fl' := @Four.flat' b x0 x1 x2 x3 x4
  have md := @Four.mid b x0 x1 x2 x3 x4
  have st := @Four.steep b x0 x1 x2 x3 x4
  replace fl := fun p q => fl (tt_flat p q)
  replace fl' := fun o p q => fl' o (tt_flat p q)
  replace md := fun p q => md (tt_mid p q)
  replace st := fun p q => st (tt_steep p q)
  unfold canon
  simp only [huffQ, insE3, List.cons_append, List.nil_append]
  split <;> split
  all_goals simp only [huffQ, insE2, List.cons_append, List.nil_append]
  all_goals split
  all_goals try split
  all_goals simp only [huffQ, insE1, List.cons_append, List.nil_append, List.append_nil]
  all_goals split
  all_goals first
    | (exfalso; clear fl fl' md st; omega)
    | exact fl (by clear fl fl' md st; omega) (by clear fl fl' md st; omega)
    | exact md (by clear fl fl' md st; omega) (by clear fl fl' md st; omega)
    | exact st (by clear fl fl' md st; omega) (by clear fl fl' md st; omega)
    | exact fl' (by clear fl fl' md st; omega) (by clear fl fl' md st; omega) (by clear fl fl' md st; omega)

end
section
/-- the three kinds of lengths -/
def kd (i : Nat) : List Int := [[2, 2, 2, 3, 3], [1, 3, 3, 3, 3], [1, 2, 3, 4, 4]].getD i []
/-- what the three kinds cost -/
def cost3 (x0 x1 x2 x3 x4 : Int) : List Int := [2 * (x2 + x3 + x4) + 3 * (x0 + x1), x4 + 3 * (x0 + x1 + x2 + x3), x4 + 2 * x3 + 3 * x2 + 4 * (x0 + x1)]
/-- the cheapest kinds -/
def bests (cs : List Int) (M : Int) : List Nat := (List.range 3).filter fun i => decide (cs.getD i 0 = M)

end
section
theorem bumpAll_get : ∀ (ps ls : List Int), ls.length = 5 → (∀ p ∈ ps, 0 ≤ p ∧ p < 5) → ∀ k : Int, 0 ≤ k → k < 5 → (bumpAll ls ps).getD k.toNat 0 = ls.getD k.toNat 0 + (ps.count k : Int)
  | [], ls, _, _, k, _, _ => by simp [bumpAll]
  | p :: r, ls, h5, hp, k, k0, k1 => by
    obtain ⟨p0, p1⟩ := hp p (.head _)
    have ih := bumpAll_get r (ls.set p.toNat (ls.getD p.toNat 0 + 1)) (by rw [List.length_set]; exact h5) (fun q hq => hp q (.tail _ hq)) k k0 k1
    show (bumpAll (ls.set p.toNat (ls.getD p.toNat 0 + 1)) r).getD k.toNat 0 = _
    rw [ih, List.count_cons]
    by_cases e : p = k
    · subst e
      have hl : p.toNat < ls.length := by omega
      rw [List.getD_eq_getElem?_getD, List.getElem?_set_self (by simpa using hl), if_pos (beq_self_eq_true _)]
      simp only [Option.getD_some]
      omega
    · have hne : p.toNat ≠ k.toNat := by omega
      rw [List.getD_eq_getElem?_getD, List.getElem?_set_ne hne, ← List.getD_eq_getElem?_getD, if_neg (by simpa using e)]
      omega
theorem huffQ_mem (b : Bool) (P : Int → Prop) : ∀ (f : Nat) (es : List Ent), (∀ e ∈ es, ∀ p ∈ e.2, P p) → ∀ p ∈ huffQ b f es, P p
  | 0, es, _, p, h => nomatch h
  | f + 1, [], _, p, h => nomatch h
  | f + 1, [_], _, p, h => nomatch h
  | f + 1, one :: two :: rest, hE, p, h => by
    have h1 : ∀ p ∈ one.2 ++ two.2, P p := fun p hp => by
      rcases List.mem_append.mp hp with hp | hp
      · exact hE one (.head _) p hp
      · exact hE two (.tail _ (.head _)) p hp
    rcases List.mem_append.mp (show p ∈ (one.2 ++ two.2) ++ huffQ b f (insE b (one.1 + two.1, one.2 ++ two.2) rest) from h) with h | h
    · exact h1 p h
    · refine huffQ_mem b P f _ (fun e he => ?_) p h
      rcases insAt_mem he with rfl | he
      · exact h1
      · exact hE e (.tail _ (.tail _ he))
theorem count_ren {σ : Int → Int} {i : Int} : ∀ {l : List Int}, (∀ y ∈ l, σ y = σ i → y = i) → (l.map σ).count (σ i) = l.count i
  | [], _ => rfl
  | a :: r, h => by
    have ih := count_ren (σ := σ) (i := i) (l := r) fun y hy => h y (.tail _ hy)
    rw [List.map_cons, List.count_cons, List.count_cons, ih]
    by_cases e : a = i
    · subst e; simp
    · have : σ a ≠ σ i := fun x => e (h a (.head _) x)
      simp [e, this]
theorem list_five {α : Type} {l : List α} (h : l.length = 5) : ∃ a b c d e, l = [a, b, c, d, e] := by
  match l, h with
  | [a, b, c, d, e], _ => exact ⟨a, b, c, d, e, rfl⟩
theorem huffGo_length (b : Bool) (f : Nat) (es : List Ent) (ls : List Int) : (huffGo b f es ls).length = ls.length := by
  rw [huffGo_eq, bumpAll_length]
theorem lens_length (b : Bool) (ws : List Int) : (lens b ws).length = 5 := huffGo_length _ _ _ _
theorem five_get {ls : List Int} (h : ls.length = 5) : ls = [0, 1, 2, 3, 4].map fun k : Int => ls.getD k.toNat 0 := by
  obtain ⟨a, b, c, d, e, rfl⟩ := list_five h
  rfl
theorem sum_perm {l l' : List Int} (h : l.Perm l') : l.sum = l'.sum := by
  induction h with
  | nil => rfl
  | cons x _ ih => rw [List.sum_cons, List.sum_cons, ih]
  | swap x y l => rw [List.sum_cons, List.sum_cons, List.sum_cons, List.sum_cons]; omega
  | trans _ _ ih1 ih2 => exact ih1.trans ih2
theorem perm_rng {qs : List Int} (h : qs.Perm [0, 1, 2, 3, 4]) : ∀ q ∈ qs, 0 ≤ q ∧ q < 5 := fun q hq => by
  have h5 : ∀ x ∈ ([0, 1, 2, 3, 4] : List Int), 0 ≤ x ∧ x < 5 := by decide
  exact h5 q (h.mem_iff.mp hq)
theorem canon_rng (a b c d e : Int) : ∀ x ∈ canon a b c d e, ∀ p ∈ x.2, 0 ≤ p ∧ p < 5 := fun x hx p hp => by
  simp only [canon, List.mem_cons, List.not_mem_nil, or_false] at hx
  rcases hx with rfl | rfl | rfl | rfl | rfl <;> (cases List.mem_singleton.mp hp; decide)
theorem nodup_getD {l : List Int} (hn : l.Nodup) {i y : Int} (i0 : 0 ≤ i) (i1 : i.toNat < l.length) (y0 : 0 ≤ y) (y1 : y.toNat < l.length) (h : l.getD y.toNat 0 = l.getD i.toNat 0) : y = i := by
  rw [List.getD_eq_getElem?_getD, List.getD_eq_getElem?_getD, List.getElem?_eq_getElem i1, List.getElem?_eq_getElem y1] at h
  have e := (List.getElem_inj hn).mp h
  rw [← Int.toNat_of_nonneg i0, ← Int.toNat_of_nonneg y0, e]
theorem lt5 {i : Int} (h : i < 5) : i.toNat < 5 := by omega
theorem getD_mem' {l : List Int} (i : Nat) (h : i < l.length) : l.getD i 0 ∈ l := by
  rw [List.getD_eq_getElem?_getD, List.getElem?_eq_getElem h]
  exact List.getElem_mem h
theorem zero5 (n : Nat) : ([0, 0, 0, 0, 0] : List Int).getD n 0 = 0 := match n with
  | 0 | 1 | 2 | 3 | 4 => rfl
  | n + 5 => rfl
theorem lens_four (b : Bool) (w0 w1 w2 w3 w4 : Int) : ∃ (x0 x1 x2 x3 x4 : Int) (c0 c1 c2 c3 c4 : Nat), ([x0, x1, x2, x3, x4] : List Int).Perm [w0, w1, w2, w3, w4] ∧ x0 ≤ x1 ∧ x1 ≤ x2 ∧ x2 ≤ x3 ∧ x3 ≤ x4 ∧ Four b x0 x1 x2 x3 x4 [c0, c1, c2, c3, c4] ∧
    (lens b [w0, w1, w2, w3, w4]).Perm [(c0 : Int), c1, c2, c3, c4] ∧ (([0, 1, 2, 3, 4] : List Int).map fun k => ([w0, w1, w2, w3, w4] : List Int).getD k.toNat 0 * (lens b [w0, w1, w2, w3, w4]).getD k.toNat 0).sum = x0 * c0 + x1 * c1 + x2 * c2 + x3 * c3 + x4 * c4 := by
  let ws : List Int := [w0, w1, w2, w3, w4]
  have hp := line5_perm b ws
  have hs := line5_sorted b ws
  have hlen : lens b ws = huffGo b 5 (line5 b ws) [0, 0, 0, 0, 0] := by
    unfold lens huff
    rw [hp.length_eq]
    rfl
  show ∃ (x0 x1 x2 x3 x4 : Int) (c0 c1 c2 c3 c4 : Nat), ([x0, x1, x2, x3, x4] : List Int).Perm ws ∧ x0 ≤ x1 ∧ x1 ≤ x2 ∧ x2 ≤ x3 ∧ x3 ≤ x4 ∧ Four b x0 x1 x2 x3 x4 [c0, c1, c2, c3, c4] ∧
    (lens b ws).Perm [(c0 : Int), c1, c2, c3, c4] ∧ (([0, 1, 2, 3, 4] : List Int).map fun k => ws.getD k.toNat 0 * (lens b ws).getD k.toNat 0).sum = x0 * c0 + x1 * c1 + x2 * c2 + x3 * c3 + x4 * c4
  have hl5 : (lens b ws).length = 5 := lens_length b ws
  generalize lens b ws = ls at hlen hl5
  generalize line5 b ws = es at hp hs hlen
  have hq : (es.map fun e => e.2.headD 0).Perm [0, 1, 2, 3, 4] := (hp.map _)
  have hes : es = (es.map fun e => e.2.headD 0).map fun k : Int => ((ws.getD k.toNat 0, [k]) : Ent) := by
    rw [List.map_map]
    refine (List.map_id es).symm.trans (List.map_congr_left fun e he => ?_)
    obtain ⟨k, _, rfl⟩ := List.mem_map.mp (hp.mem_iff.mp he)
    rfl
  have hw : (es.map (·.1)).Perm ws := (hp.map (·.1))
  generalize (es.map fun e => e.2.headD 0) = qs at hq hes
  obtain ⟨q0, q1, q2, q3, q4, rfl⟩ := list_five (show qs.length = 5 from hq.length_eq)
  have hnd : ([q0, q1, q2, q3, q4] : List Int).Nodup := hq.nodup_iff.mpr (by decide)
  have hr : ∀ q ∈ ([q0, q1, q2, q3, q4] : List Int), 0 ≤ q ∧ q < 5 := perm_rng hq
  subst hes
  have hc : ([q0, q1, q2, q3, q4].map fun k : Int => ((ws.getD k.toNat 0, [k]) : Ent)) = (canon (ws.getD q0.toNat 0) (ws.getD q1.toNat 0) (ws.getD q2.toNat 0) (ws.getD q3.toNat 0) (ws.getD q4.toNat 0)).map (ren fun i => ([q0, q1, q2, q3, q4] : List Int).getD i.toNat 0) := rfl
  rw [hc, huffGo_eq, huffQ_ren] at hlen
  simp only [List.map_cons, List.map_nil] at hw hs
  have so := hs
  simp only [SortE, List.pairwise_cons, List.mem_cons, List.not_mem_nil, or_false, forall_eq_or_imp, forall_eq] at so
  have four := canon_four b so.1.1 so.2.1.1 so.2.2.1.1 so.2.2.2.1
  have hQ : ∀ p ∈ huffQ b 5 (canon (ws.getD q0.toNat 0) (ws.getD q1.toNat 0) (ws.getD q2.toNat 0) (ws.getD q3.toNat 0) (ws.getD q4.toNat 0)), 0 ≤ p ∧ p < 5 := huffQ_mem b _ 5 _ (canon_rng _ _ _ _ _)
  generalize huffQ b 5 (canon (ws.getD q0.toNat 0) (ws.getD q1.toNat 0) (ws.getD q2.toNat 0) (ws.getD q3.toNat 0) (ws.getD q4.toNat 0)) = Q at hlen hQ four
  have hr' : ∀ i : Int, 0 ≤ i → i < 5 → ([q0, q1, q2, q3, q4] : List Int).getD i.toNat 0 ∈ ([q0, q1, q2, q3, q4] : List Int) := fun i h0 h1 => getD_mem' _ (lt5 h1)
  have hinj : ∀ i y : Int, 0 ≤ i → i < 5 → 0 ≤ y → y < 5 → ([q0, q1, q2, q3, q4] : List Int).getD y.toNat 0 = ([q0, q1, q2, q3, q4] : List Int).getD i.toNat 0 → y = i := fun i y i0 i1 y0 y1 h => nodup_getD hnd i0 (lt5 i1) y0 (lt5 y1) h
  have gi : ∀ i : Int, 0 ≤ i → i < 5 → ls.getD (([q0, q1, q2, q3, q4] : List Int).getD i.toNat 0).toNat 0 = (Q.count i : Int) := fun i i0 i1 => by
    obtain ⟨r0, r1⟩ := hr _ (hr' i i0 i1)
    rw [hlen, bumpAll_get _ _ rfl (fun p hp => by obtain ⟨y, hy, rfl⟩ := List.mem_map.mp hp; exact hr _ (hr' y (hQ y hy).1 (hQ y hy).2)) _ r0 r1]
    have e : (Q.map fun i => ([q0, q1, q2, q3, q4] : List Int).getD i.toNat 0).count (([q0, q1, q2, q3, q4] : List Int).getD i.toNat 0) = Q.count i := count_ren (σ := fun i => ([q0, q1, q2, q3, q4] : List Int).getD i.toNat 0) fun y hy h => hinj i y i0 i1 (hQ y hy).1 (hQ y hy).2 h
    rw [e]
    rw [zero5, Int.zero_add]
  have g0 := gi 0 (by decide) (by decide)
  have g1 := gi 1 (by decide) (by decide)
  have g2 := gi 2 (by decide) (by decide)
  have g3 := gi 3 (by decide) (by decide)
  have g4 := gi 4 (by decide) (by decide)
  change ls.getD q0.toNat 0 = _ at g0
  change ls.getD q1.toNat 0 = _ at g1
  change ls.getD q2.toNat 0 = _ at g2
  change ls.getD q3.toNat 0 = _ at g3
  change ls.getD q4.toNat 0 = _ at g4
  refine ⟨_, _, _, _, _, _, _, _, _, _, hw, so.1.1, so.2.1.1, so.2.2.1.1, so.2.2.2.1, four, ?_, ?_⟩
  · rw [five_get hl5]
    refine (hq.symm.map _).trans ?_
    simp only [List.map_cons, List.map_nil, g0, g1, g2, g3, g4]
    exact List.Perm.refl _
  · rw [← sum_perm (hq.map fun k : Int => ws.getD k.toNat 0 * ls.getD k.toNat 0)]
    simp only [List.map_cons, List.map_nil, List.sum_cons, List.sum_nil, g0, g1, g2, g3, g4]
    simp only [Int.add_zero, Int.add_assoc]

end
section
theorem bests_eq (k0 k1 k2 M : Int) : bests [k0, k1, k2] M = (if k0 = M then [0] else []) ++ (if k1 = M then [1] else []) ++ (if k2 = M then [2] else []) := by
  show List.filter _ [0, 1, 2] = _
  simp only [List.filter_cons, List.filter_nil, List.getD_cons_zero, List.getD_cons_succ, decide_eq_true_eq]
  split <;> split <;> split <;> rfl
theorem pick_k {A B C M : Int} {f z : Nat} (hf : (bests [A, B, C] M).head? = some f) (hz : (bests [A, B, C] M).getLast? = some z) : (A = M → f = 0) ∧ (B ≠ M → C ≠ M → A = M → z = 0) ∧ (A ≠ M → B = M → f = 1) ∧ (C ≠ M → B = M → z = 1) ∧ (A ≠ M → B ≠ M → C = M → f = 2) ∧ (C = M → z = 2) := by
  rw [bests_eq] at hf hz
  refine ⟨fun a => ?_, fun b c a => ?_, fun a b => ?_, fun c b => ?_, fun a b c => ?_, fun c => ?_⟩
  · rw [if_pos a] at hf; exact (Option.some.inj hf).symm
  · rw [if_pos a, if_neg b, if_neg c] at hz; exact (Option.some.inj hz).symm
  · rw [if_neg a, if_pos b] at hf; exact (Option.some.inj hf).symm
  · rw [if_neg c, if_pos b, List.append_nil, List.getLast?_append] at hz; exact (Option.some.inj hz).symm
  · rw [if_neg a, if_neg b, if_pos c] at hf; exact (Option.some.inj hf).symm
  · rw [if_pos c, List.getLast?_append] at hz; exact (Option.some.inj hz).symm
theorem low_w {A B C M : Int} (hM : M = A ∨ M = B ∨ M = C) (m : M ≤ A) (h1 : A ≤ B) (h2 : A ≤ C) : A = M := by
  rcases hM with rfl | rfl | rfl
  · rfl
  · exact Int.le_antisymm h1 m
  · exact Int.le_antisymm h2 m
theorem pick_flat {b : Bool} {A B C M : Int} {f z : Nat} (hM : M = A ∨ M = B ∨ M = C) (m0 : M ≤ A) (hf : (bests [A, B, C] M).head? = some f) (hz : (bests [A, B, C] M).getLast? = some z) (h : ∀ c, c = B ∨ c = C → if b then A ≤ c else A < c) : A = M ∧ (if b then f else z) = 0 := by
  have h1 := h B (.inl rfl)
  have h2 := h C (.inr rfl)
  have q := pick_k hf hz
  cases b with
  | true => exact ⟨low_w hM m0 h1 h2, q.1 (low_w hM m0 h1 h2)⟩
  | false =>
    cases low_w hM m0 (Int.le_of_lt h1) (Int.le_of_lt h2)
    exact ⟨rfl, q.2.1 (Int.ne_of_gt h1) (Int.ne_of_gt h2) rfl⟩
theorem pick_mid {b : Bool} {A B C M : Int} {f z : Nat} (hM : M = A ∨ M = B ∨ M = C) (m0 : M ≤ B) (hf : (bests [A, B, C] M).head? = some f) (hz : (bests [A, B, C] M).getLast? = some z) (h : if b then B < A ∧ B ≤ C else B ≤ A ∧ B < C) : B = M ∧ (if b then f else z) = 1 := by
  have q := pick_k hf hz
  have hM' : M = B ∨ M = A ∨ M = C := hM.elim (fun h => .inr (.inl h)) fun h => h.elim .inl fun h => .inr (.inr h)
  cases b with
  | true =>
    cases low_w hM' m0 (Int.le_of_lt h.1) h.2
    exact ⟨rfl, q.2.2.1 (Int.ne_of_gt h.1) rfl⟩
  | false =>
    cases low_w hM' m0 h.1 (Int.le_of_lt h.2)
    exact ⟨rfl, q.2.2.2.1 (Int.ne_of_gt h.2) rfl⟩
theorem pick_steep {b : Bool} {A B C M : Int} {f z : Nat} (hM : M = A ∨ M = B ∨ M = C) (m0 : M ≤ C) (hf : (bests [A, B, C] M).head? = some f) (hz : (bests [A, B, C] M).getLast? = some z) (h : ∀ c, c = B ∨ c = A → if b then C < c else C ≤ c) : C = M ∧ (if b then f else z) = 2 := by
  have h1 := h B (.inl rfl)
  have h2 := h A (.inr rfl)
  have q := pick_k hf hz
  have hM' : M = C ∨ M = A ∨ M = B := hM.elim (fun h => .inr (.inl h)) fun h => h.elim (fun h => .inr (.inr h)) .inl
  cases b with
  | true =>
    cases low_w hM' m0 (Int.le_of_lt h2) (Int.le_of_lt h1)
    exact ⟨rfl, q.2.2.2.2.1 (Int.ne_of_gt h2) (Int.ne_of_gt h1) rfl⟩
  | false => exact ⟨low_w hM' m0 h2 h1, q.2.2.2.2.2 (low_w hM' m0 h2 h1)⟩
theorem sum_flat (x0 x1 x2 x3 x4 : Int) : x0 * (3 : Nat) + x1 * (3 : Nat) + x2 * (2 : Nat) + x3 * (2 : Nat) + x4 * (2 : Nat) = 2 * (x2 + x3 + x4) + 3 * (x0 + x1) := by omega
theorem sum_flat' {x0 x1 x2 x3 x4 : Int} (h : x0 = x1 ∧ x1 = x2 ∧ x2 = x3) : x0 * (2 : Nat) + x1 * (2 : Nat) + x2 * (3 : Nat) + x3 * (3 : Nat) + x4 * (2 : Nat) = 2 * (x2 + x3 + x4) + 3 * (x0 + x1) := by omega
theorem sum_mid (x0 x1 x2 x3 x4 : Int) : x0 * (3 : Nat) + x1 * (3 : Nat) + x2 * (3 : Nat) + x3 * (3 : Nat) + x4 * (1 : Nat) = x4 + 3 * (x0 + x1 + x2 + x3) := by omega
theorem sum_steep (x0 x1 x2 x3 x4 : Int) : x0 * (4 : Nat) + x1 * (4 : Nat) + x2 * (3 : Nat) + x3 * (2 : Nat) + x4 * (1 : Nat) = x4 + 2 * x3 + 3 * x2 + 4 * (x0 + x1) := by omega
theorem kind_of {b : Bool} {x0 x1 x2 x3 x4 M : Int} {c0 c1 c2 c3 c4 f z : Nat} (h : Four b x0 x1 x2 x3 x4 [c0, c1, c2, c3, c4]) (hM : M ∈ cost3 x0 x1 x2 x3 x4) (hle : ∀ c ∈ cost3 x0 x1 x2 x3 x4, M ≤ c)
    (hf : (bests (cost3 x0 x1 x2 x3 x4) M).head? = some f) (hz : (bests (cost3 x0 x1 x2 x3 x4) M).getLast? = some z) :
    x0 * c0 + x1 * c1 + x2 * c2 + x3 * c3 + x4 * c4 = M ∧ ([(c0 : Int), c1, c2, c3, c4] : List Int).Perm (kd (if b then f else z)) := by
  have m0 := hle _ (.head _)
  have m1 := hle _ (.tail _ (.head _))
  have m2 := hle _ (.tail _ (.tail _ (.head _)))
  simp only [cost3, List.mem_cons, List.not_mem_nil, or_false] at hM
  cases h with
  | flat h =>
    obtain ⟨e, k⟩ := pick_flat hM m0 hf hz h
    rw [k, ← e]
    exact ⟨sum_flat _ _ _ _ _, by decide⟩
  | flat' hx h =>
    obtain ⟨e, k⟩ := pick_flat hM m0 hf hz h
    rw [k, ← e]
    exact ⟨sum_flat' hx, by decide⟩
  | mid h =>
    obtain ⟨e, k⟩ := pick_mid hM m1 hf hz h
    rw [k, ← e]
    exact ⟨sum_mid _ _ _ _ _, by decide⟩
  | steep h =>
    obtain ⟨e, k⟩ := pick_steep hM m2 hf hz h
    rw [k, ← e]
    exact ⟨sum_steep _ _ _ _ _, by decide⟩
theorem sorted_eq {l l' : List Int} (h : l.Perm l') (h1 : l.Pairwise (fun a b => a ≤ b)) (h2 : l'.Pairwise (fun a b => a ≤ b)) : l = l' :=
  List.Perm.eq_of_pairwise (fun a b _ _ x y => Int.le_antisymm x y) h1 h2 h
theorem five_sorted {a b c d e : Int} (o1 : a ≤ b) (o2 : b ≤ c) (o3 : c ≤ d) (o4 : d ≤ e) : List.Pairwise (fun a b => a ≤ b) ([a, b, c, d, e] : List Int) := by
  refine List.pairwise_cons.mpr ⟨fun x hx => ?_, List.pairwise_cons.mpr ⟨fun x hx => ?_, List.pairwise_cons.mpr ⟨fun x hx => ?_, List.pairwise_cons.mpr ⟨fun x hx => ?_, List.pairwise_cons.mpr ⟨fun x hx => absurd hx List.not_mem_nil, List.Pairwise.nil⟩⟩⟩⟩⟩
  all_goals (simp only [List.mem_cons, List.not_mem_nil, or_false] at hx; omega)
/-- Huffman's lengths are the cheapest kind's, the flattest's or the steepest's -/
theorem huff_law {b : Bool} {w0 w1 w2 w3 w4 x0 x1 x2 x3 x4 M : Int} {f z : Nat} (hx : ([x0, x1, x2, x3, x4] : List Int).Perm [w0, w1, w2, w3, w4]) (ho : List.Pairwise (fun a b => a ≤ b) ([x0, x1, x2, x3, x4] : List Int))
    (hM : M ∈ cost3 x0 x1 x2 x3 x4) (hle : ∀ c ∈ cost3 x0 x1 x2 x3 x4, M ≤ c) (hf : (bests (cost3 x0 x1 x2 x3 x4) M).head? = some f) (hz : (bests (cost3 x0 x1 x2 x3 x4) M).getLast? = some z) :
    (([0, 1, 2, 3, 4] : List Int).map fun k => ([w0, w1, w2, w3, w4] : List Int).getD k.toNat 0 * (lens b [w0, w1, w2, w3, w4]).getD k.toNat 0).sum = M ∧ (lens b [w0, w1, w2, w3, w4]).Perm (kd (if b then f else z)) := by
  obtain ⟨y0, y1, y2, y3, y4, c0, c1, c2, c3, c4, hy, o1, o2, o3, o4, four, hp, hs⟩ := lens_four b w0 w1 w2 w3 w4
  have e := sorted_eq (hx.trans hy.symm) ho (five_sorted o1 o2 o3 o4)
  obtain ⟨d0, e⟩ := List.cons.inj e
  obtain ⟨d1, e⟩ := List.cons.inj e
  obtain ⟨d2, e⟩ := List.cons.inj e
  obtain ⟨d3, e⟩ := List.cons.inj e
  obtain ⟨d4, _⟩ := List.cons.inj e
  subst d0 d1 d2 d3 d4
  obtain ⟨k1, k2⟩ := kind_of four hM hle hf hz
  exact ⟨hs.trans k1, hp.trans k2⟩

end
section
/-- the order of pairs -/
def plt (p q : Int × Int) : Bool := decide (p.1 < q.1) || (decide (p.1 = q.1) && decide (p.2 < q.2))
/-- what the k-th turn lays into the order, and the pairs' place -/
def ordK (b : Bool) (i : Nat) : Int := if b then (i : Int) else 4 - (i : Int)
def prK (b : Bool) (i : Nat) : Int := if b then 4 - (i : Int) else (i : Int)
def ordGo (b : Bool) (ls : List Int) : Nat → List Int
  | 0 => []
  | i + 1 => insAt (bisN (fun j => if b then decide (ls.getD ((ordGo b ls i).getD j 0).toNat 0 ≤ ls.getD (ordK b i).toNat 0) else decide (ls.getD ((ordGo b ls i).getD j 0).toNat 0 < ls.getD (ordK b i).toNat 0)) 0 (ordGo b ls i).length) (ordK b i) (ordGo b ls i)
def prGo (b : Bool) (ls : List Int) : Nat → List (Int × Int)
  | 0 => []
  | i + 1 => insAt (bisN (fun j => if b then !(plt (ls.getD (prK b i).toNat 0, prK b i) ((prGo b ls i).getD j (0, 0))) else plt ((prGo b ls i).getD j (0, 0)) (ls.getD (prK b i).toNat 0, prK b i)) 0 (prGo b ls i).length) (ls.getD (prK b i).toNat 0, prK b i) (prGo b ls i)
theorem ordGo_length (b : Bool) (ls : List Int) : ∀ i, (ordGo b ls i).length = i
  | 0 => rfl
  | i + 1 => by rw [ordGo, insAt_length, ordGo_length b ls i]
theorem prGo_length (b : Bool) (ls : List Int) : ∀ i, (prGo b ls i).length = i
  | 0 => rfl
  | i + 1 => by rw [prGo, insAt_length, prGo_length b ls i]
theorem ordGo_range (b : Bool) (ls : List Int) : ∀ i, i ≤ 5 → ∀ o ∈ ordGo b ls i, 0 ≤ o ∧ o < 5
  | 0, _, o, h => nomatch h
  | i + 1, hi, o, h => by
    rw [ordGo] at h
    rcases insAt_mem h with rfl | h
    · unfold ordK
      cases b <;> simp <;> omega
    · exact ordGo_range b ls i (by omega) o h
/-- the pairs tell the same order -/
structure OrdOk (b : Bool) (ls : List Int) : Prop where
  eq : (prGo b ls 5).map (·.2) = ordGo b ls 5
theorem ordGo_R (ls : List Int) (i : Nat) : ordGo true ls (i + 1) = insAt (bisN (fun j => decide (ls.getD ((ordGo true ls i).getD j 0).toNat 0 ≤ ls.getD (i : Int).toNat 0)) 0 (ordGo true ls i).length) (i : Int) (ordGo true ls i) := by simp [ordGo, ordK]
theorem ordGo_L (ls : List Int) (i : Nat) : ordGo false ls (i + 1) = insAt (bisN (fun j => decide (ls.getD ((ordGo false ls i).getD j 0).toNat 0 < ls.getD (4 - (i : Int)).toNat 0)) 0 (ordGo false ls i).length) (4 - (i : Int)) (ordGo false ls i) := by simp [ordGo, ordK]
theorem prGo_R (ls : List Int) (i : Nat) : prGo true ls (i + 1) = insAt (bisN (fun j => !(plt (ls.getD (4 - (i : Int)).toNat 0, 4 - (i : Int)) ((prGo true ls i).getD j (0, 0)))) 0 (prGo true ls i).length) (ls.getD (4 - (i : Int)).toNat 0, 4 - (i : Int)) (prGo true ls i) := by simp [prGo, prK]
theorem prGo_L (ls : List Int) (i : Nat) : prGo false ls (i + 1) = insAt (bisN (fun j => plt ((prGo false ls i).getD j (0, 0)) (ls.getD (i : Int).toNat 0, (i : Int))) 0 (prGo false ls i).length) (ls.getD (i : Int).toNat 0, (i : Int)) (prGo false ls i) := by simp [prGo, prK]

end
section
/-- the first place of an int -/
def ix : List Int → Int → Nat
  | [], _ => 0
  | a :: r, x => if a = x then 0 else ix r x + 1
/-- the greatest of a list of ints that are not below nought -/
def mx (ls : List Int) : Int := ls.foldl max 0
/-- a symbol's word as the text takes it out of the line's places -/
def wordOf (ls os sts : List Int) (p : Int) : Int := (sts.getD (ix os p) 0).fdiv (2 ^ (mx ls - ls.getD p.toNat 0).toNat)
/-- one more word is written -/
def wrF (ls os sts : List Int) (acc : Int × Int) (p : Int) : Int × Int := (acc.1 * 2 ^ (ls.getD p.toNat 0).toNat + wordOf ls os sts p, acc.2 + ls.getD p.toNat 0)
def wr (ls os sts ms : List Int) : Int × Int := ms.foldl (wrF ls os sts) (0, 0)
/-- every word has as many figures as its length tells -/
structure WordOk (ls os sts : List Int) : Prop where
  ok : ∀ p : Int, 0 ≤ p → p < 5 → 0 ≤ wordOf ls os sts p ∧ wordOf ls os sts p < 2 ^ (ls.getD p.toNat 0).toNat ∧ 1 ≤ ls.getD p.toNat 0 ∧ ls.getD p.toNat 0 ≤ 4
theorem wr_snoc (ls os sts ms : List Int) (p : Int) : wr ls os sts (ms ++ [p]) = wrF ls os sts (wr ls os sts ms) p := by
  unfold wr
  rw [List.foldl_append]
  rfl
theorem wrF_bound {ls os sts : List Int} (h : WordOk ls os sts) {acc : Int × Int} {p : Int} {m : Nat} (a : 0 ≤ acc.1) (b : acc.1 < 2 ^ (4 * m)) (p0 : 0 ≤ p) (p1 : p < 5) : 0 ≤ (wrF ls os sts acc p).1 ∧ (wrF ls os sts acc p).1 < 2 ^ (4 * (m + 1)) := by
  obtain ⟨w0, w1, l0, l1⟩ := h.ok p p0 p1
  unfold wrF
  dsimp only
  generalize ls.getD p.toNat 0 = l at *
  generalize wordOf ls os sts p = w at *
  generalize acc.1 = n at *
  obtain ⟨k, rfl⟩ : ∃ k : Nat, l = k := ⟨l.toNat, by omega⟩
  rw [Int.toNat_natCast] at *
  have hk : (0 : Int) < 2 ^ k := Int.pow_pos (by decide)
  have hn : 0 ≤ n * 2 ^ k := Int.mul_nonneg a (Int.le_of_lt hk)
  refine ⟨by omega, ?_⟩
  have e : (2 : Int) ^ (4 * (m + 1)) = 2 ^ (4 * m) * 2 ^ 4 := by rw [Nat.mul_add, Int.pow_add]
  rw [e]
  have h1 : n * 2 ^ k + w < (n + 1) * 2 ^ k := by rw [Int.add_mul]; omega
  have h2 : (n + 1) * 2 ^ k ≤ 2 ^ (4 * m) * 2 ^ k := Int.mul_le_mul_of_nonneg_right (by omega) (Int.le_of_lt hk)
  have h3 : (2 : Int) ^ k ≤ 2 ^ 4 := by exact_mod_cast Nat.pow_le_pow_right (n := 2) (by decide) (show k ≤ 4 by omega)
  have h4 : (2 : Int) ^ (4 * m) * 2 ^ k ≤ 2 ^ (4 * m) * 2 ^ 4 := Int.mul_le_mul_of_nonneg_left h3 (Int.le_of_lt (Int.pow_pos (by decide)))
  omega
theorem wr_bound {ls os sts : List Int} (h : WordOk ls os sts) : ∀ (ms : List Int) (acc : Int × Int) (m : Nat), 0 ≤ acc.1 → acc.1 < 2 ^ (4 * m) → (∀ p ∈ ms, 0 ≤ p ∧ p < 5) → 0 ≤ (ms.foldl (wrF ls os sts) acc).1 ∧ (ms.foldl (wrF ls os sts) acc).1 < 2 ^ (4 * (m + ms.length))
  | [], acc, m, a, b, _ => ⟨a, b⟩
  | p :: r, acc, m, a, b, hp => by
    obtain ⟨c, d⟩ := wrF_bound h a b (hp p (.head _)).1 (hp p (.head _)).2
    have := wr_bound h r (wrF ls os sts acc p) (m + 1) c d fun q hq => hp q (.tail _ hq)
    rw [List.foldl_cons, List.length_cons, show m + (r.length + 1) = m + 1 + r.length by omega]
    exact this
/-- nothing of the number is lost under the word -/
theorem or_word {n w : Int} {k : Nat} (hn : 0 ≤ n) (h0 : 0 ≤ w) (h1 : w < 2 ^ k) : Builtin.bitOr (n * 2 ^ k) w = n * 2 ^ k + w := by
  obtain ⟨a, rfl⟩ : ∃ a : Nat, n = a := ⟨n.toNat, by omega⟩
  obtain ⟨b, rfl⟩ : ∃ b : Nat, w = b := ⟨w.toNat, by omega⟩
  have h1' : b < 2 ^ k := by exact_mod_cast h1
  have z : (a <<< k) &&& b = 0 := by
    refine Nat.eq_of_testBit_eq fun i => ?_
    rw [Nat.testBit_and, Nat.testBit_shiftLeft, Nat.zero_testBit]
    by_cases hi : k ≤ i
    · rw [Nat.testBit_lt_two_pow (Nat.lt_of_lt_of_le h1' (Nat.pow_le_pow_right (by decide) hi)), Bool.and_false]
    · simp [hi]
  rw [PyProof.Rows.bitOr_and]
  have e : Builtin.bitAnd ((a : Int) * 2 ^ k) b = (((a * 2 ^ k) &&& b : Nat) : Int) := by
    have hx : (0 : Int) ≤ (a : Int) * 2 ^ k := by exact_mod_cast Nat.zero_le _
    have ex : ((a : Int) * 2 ^ k).toNat = a * 2 ^ k := by
      have : ((a : Int) * 2 ^ k) = ((a * 2 ^ k : Nat) : Int) := by push_cast; rfl
      rw [this, Int.toNat_natCast]
    unfold Builtin.bitAnd
    rw [decide_eq_true hx, decide_eq_true (Int.natCast_nonneg b)]
    show ((((a : Int) * 2 ^ k).toNat &&& (b : Int).toNat : Nat) : Int) = _
    rw [ex, Int.toNat_natCast]
  rw [e, ← Nat.shiftLeft_eq, z]
  omega
theorem wr_small {ls os sts ms : List Int} (h : 0 ≤ (ms.foldl (wrF ls os sts) (0, 0)).1 ∧ (ms.foldl (wrF ls os sts) (0, 0)).1 < 2 ^ (4 * (0 + ms.length))) (hm : ms.length < 16) : ((wr ls os sts ms).1).natAbs < 2 ^ 64 := by
  obtain ⟨a, b⟩ := h
  change 0 ≤ (wr ls os sts ms).1 at a
  change (wr ls os sts ms).1 < _ at b
  have c : (2 : Int) ^ (4 * (0 + ms.length)) ≤ 2 ^ 64 := by exact_mod_cast Nat.pow_le_pow_right (n := 2) (by decide) (show 4 * (0 + ms.length) ≤ 64 by omega)
  have d : (2 : Int) ^ 64 = 18446744073709551616 := by decide
  have e : (2 : Nat) ^ 64 = 18446744073709551616 := by decide
  rw [e]
  omega

end
section
/-- the sort's tree run with a told order; every question lies within n -/
def kasVal {α : Type} (n : Nat) (lt : Nat → Nat → Bool) : KasT α → Option α
  | .ret a => some a
  | .ask i j k => if i < n ∧ j < n then kasVal n lt (k (lt i j)) else none
theorem kasVal_wp {α : Type} {n : Nat} {lt : Nat → Nat → Bool} {cmp : Nat → Nat → (Bool → Shared → Prop) → Shared → Prop} (I : Shared → Prop) (hc : ∀ i j C s, i < n → j < n → I s → (∀ s', I s' → C (lt i j) s') → cmp i j C s) {Q : α → Shared → Prop} {a : α} :
    ∀ (t : KasT α) (s : Shared), kasVal n lt t = some a → I s → (∀ s', I s' → Q a s') → t.kasWp cmp Q s
  | .ret b, s, h, hI, hQ => by
    simp only [kasVal, Option.some.injEq] at h
    subst h
    exact hQ s hI
  | .ask i j k, s, h, hI, hQ => by
    simp only [kasVal] at h
    split at h
    · rename_i hij
      exact hc i j _ s hij.1 hij.2 hI fun s' hI' => kasVal_wp I hc (k (lt i j)) s' h hI' hQ
    · exact nomatch h
/-- the places of the lengths, sorted -/
def pairLt (ls : List Int) (i j : Nat) : Bool := plt (ls.getD i 0, (i : Int)) (ls.getD j 0, (j : Int))
/-- the pairs of length and place, sorted, tell the order -/
structure SortOk (ls os : List Int) : Prop where
  eq : kasVal 5 (pairLt ls) (kas_sort 5) = some (List.toArray (os.map Int.toNat))

end
section
/-- the plain count of the words -/
def dueF (ls : List Int) (acc : List Int × Int × Int) (o : Int) : List Int × Int × Int := (acc.1.set o.toNat (acc.2.1 * 2 ^ (ls.getD o.toNat 0 - acc.2.2).toNat), acc.2.1 * 2 ^ (ls.getD o.toNat 0 - acc.2.2).toNat + 1, ls.getD o.toNat 0)
def dues (ls os : List Int) (i : Nat) : List Int × Int × Int := (os.take i).foldl (dueF ls) ([0, 0, 0, 0, 0], 0, 0)
theorem dues_snoc {ls os : List Int} {i : Nat} {o : Int} (h : os[i]? = some o) : dues ls os (i + 1) = dueF ls (dues ls os i) o := by
  unfold dues
  rw [List.take_add_one, h, Option.toList_some, List.foldl_append]
  rfl
theorem foldl_due_len (ls : List Int) : ∀ (os : List Int) (acc : List Int × Int × Int), (os.foldl (dueF ls) acc).1.length = acc.1.length
  | [], _ => rfl
  | o :: r, acc => by rw [List.foldl_cons, foldl_due_len ls r]; exact List.length_set
theorem dues_len (ls os : List Int) (i : Nat) : (dues ls os i).1.length = 5 := by
  unfold dues
  rw [foldl_due_len]
  rfl
/-- the words so counted are those that the line tells -/
structure DueOk (ls os sts : List Int) : Prop where
  rng : ∀ o ∈ os, 0 ≤ o ∧ o < 5
  ok : ∀ i o, os[i]? = some o → 0 ≤ ls.getD o.toNat 0 - (dues ls os i).2.2 ∧ ls.getD o.toNat 0 - (dues ls os i).2.2 ≤ 1000 ∧ (dues ls os i).2.1.natAbs < 2 ^ 64
  wd : ∀ p : Int, 0 ≤ p → p < 5 → (dues ls os os.length).1.getD p.toNat 0 = wordOf ls os sts p
theorem wr_sum (ls os sts : List Int) : ∀ (ms : List Int) (acc : Int × Int), (ms.foldl (wrF ls os sts) acc).2 = acc.2 + (ms.map fun p => ls.getD p.toNat 0).sum
  | [], acc => by simp
  | p :: r, acc => by
    rw [List.foldl_cons, wr_sum ls os sts r, List.map_cons, List.sum_cons]
    show acc.2 + ls.getD p.toNat 0 + _ = _
    omega
theorem wr_two (ls os sts ms : List Int) : (wr ls os sts ms).2 = (ms.map fun p => ls.getD p.toNat 0).sum := by
  unfold wr
  rw [wr_sum]
  exact Int.zero_add _

end
section
theorem words_rules : True := by
  k_with_none
  (k_with "CJ" => (with_reducible first | assumption | exact cj0 ‹_› | exact cj1 ‹_› | exact cl1 ‹_› | exact cj2 ‹_› | exact cl2 ‹_› | exact cj3 ‹_› | exact cl3 ‹_› | exact cj4 ‹_› | exact cl4 ‹_› | exact cj5 ‹_› | exact cl5 ‹_› | exact cj6 ‹_› | exact cl6 ‹_› | exact cj7 ‹_› | exact cl7 ‹_› | exact cj8 ‹_› | exact cl8 ‹_› | exact cj9 ‹_› | exact cl9 ‹_› | exact cj10 ‹_› | exact cl10 ‹_› | exact cj11 ‹_› | exact cl11 ‹_› | exact cj12 ‹_› | exact cl12 ‹_›))
  (k_with "k_ne" => (((refine neN ?_); (try dsimp only); first | exact Nat.ne_of_gt (by k_extra "CJ") | exact Nat.ne_of_lt (by k_extra "CJ") | k_extra "CJ" | exact Ne.symm (by k_extra "CJ"))))
  (k_with "ktr_room" => (first | exact rm0 ‹_› | exact rm1 ‹_› rfl | exact rm2 ‹_› rfl | exact rm3 ‹_› rfl))
  (k_with "ktr_units" => (first | exact rm0 ‹_› | exact rm1 ‹_› rfl | exact rm2 ‹_› rfl | exact rm3 ‹_› rfl))
  (k_with "k_mem" => (first | exact List.Mem.head _ | (refine' List.Mem.tail _ ?_; k_mem) | (show (_ : Addr × Obj) ∈ (_ : List (Addr × Obj)); with_reducible assumption)))
  exact True.intro
section
variable {prog : Program} {w : World} {A : Around} {E : Value → Shared → Prop} {s : Shared} {h₀ : Heap} {L l : Addr} {m : Str → Option Value}
/-- len of a list of the ledger -/
theorem my_len {news : List (Addr × Obj)} {us : List Value} {c : Nat} {Q : Value → Shared → Prop} (N : News h₀ L s.heap news) (hm : (l, listOf us.toArray c) ∈ news) (hfit : us.length < 1000)
    (h : Q (.int (us.length : Int) (s.toks + 1)) { s with toks := s.toks + 1 + 1 }) : wpAny (model prog w) A (call (.builtin "len") [.ref l]) Q E s :=
  kst_len N hm rfl (by omega) h
/-- an item of a list of the ledger, whatever it is -/
theorem my_item {news : List (Addr × Obj)} {us : List Value} {c : Nat} {value slice : PySem.Expr} {k : Int} {u : Tok} {Q : Value → Shared → Prop} (N : News h₀ L s.heap news) (hm : (l, listOf us.toArray c) ∈ news)
    (hfit : us.length < 1000) (h0 : 0 ≤ k) (h1 : k < (us.length : Int)) (h : ∀ v, us[k.toNat]? = some v → Q v s)
    (hs : subscripted slice false (.ref l) (.int k u) = operate [.ref l, .int k u] (getItem (.ref l) (.int k u)) := by with_unfolding_all rfl) :
    wpAny (model prog w) A (subscriptTail value slice (.ref l) (.int k u)) Q E s := by
  have hl : s.heap.IsList l us.toArray := ⟨_, (N _ hm).1, rfl, c, rfl⟩
  have hx : us[k.toNat]? = some (us[k.toNat]'(by omega)) := List.getElem?_eq_getElem _
  exact tail_any hl.typeIs slot_list_getitem.lookup (wpAny_getItem_list hl h0 (by omega) (by simpa using hx) (h _ hx)) hs
end
/-- a function object stands there -/
structure IsFn (h : Heap) (a : Addr) : Prop where
  ex : ∃ o fd, h.get? a = some o ∧ o.data = .func fd
theorem IsFn.keeps {M : Model} {a : Addr} (h : Heap) (X : IsFn h a) : ∃ k, (k = Keeper.frame ∨ k = Keeper.machine ∨ k = Keeper.boundFrame) ∧ Looks M h (keeperOf (.ref a)) k := by
  obtain ⟨⟨c, d, dat, sl⟩, fd, e, hd'⟩ := X.ex
  dsimp only at hd'
  subst hd'
  exact ⟨.frame, .inl rfl, (Looks.ld (part := none) e).andThen .now⟩
/-- wherever the ledger stands, kf is a function -/
def KeyFn (w : World) (news : List (Addr × Obj)) (kf : Addr) : Prop := ∀ (h₀ : Heap) (L : Addr) (h : Heap), (hd.heap_39 w.params).In h → News h₀ L h news → IsFn h kf
theorem KeyFn.get {w : World} {news : List (Addr × Obj)} {kf : Addr} {h₀ h : Heap} {L : Addr} (x : KeyFn w news kf) (X : (hd.heap_39 w.params).In h) (N : News h₀ L h news) : IsFn h kf := x h₀ L h X N
section
variable {M : Model} {A : Around} {E : Value → Shared → Prop} {s : Shared} {env : Env} {pos : Pos} {first : List Value} {Q : Value → Shared → Prop} {w : World} {news : List (Addr × Obj)} {f : Addr}
theorem callWith_Fn1 {e : PySem.Expr} {rest : List PySem.Expr} (_ : KeyFn w news f) (h : wpAny M A (spliced (backTo pos (starEach (e :: rest) env))) (fun vs s₁ => IsFn s₁.heap f ∧ wpAny M A (call (.ref f) (first ++ vs)) Q E s₁) E s)
    (he : starEach (e :: rest) env = (false, eval e env) :: starEach rest env := by rfl) (hplain : (backTo pos (starEach rest env)).any (·.1) = false := by rfl) :
    wpAny M A (callWith pos (.ref f) first (backTo pos (starEach (e :: rest) env)) []) Q E s := by
  rw [he] at h ⊢
  exact callWith_of (by show ((false || (backTo pos (starEach rest env)).any (·.1)) || false) = false; rw [hplain]; rfl) IsFn.keeps (evalArgs_plain h)
end
/-- a key that may be called: in any frame, on v, it gives r and leaves all as it was -/
def KeyOk (prog : Program) (w : World) (loose : List Str) (mean : ExcName → Option Value) (mg mb : Str → Option Value) (news : List (Addr × Obj)) (kf : Addr) (v : Value) (r : Int) : Prop :=
  ∀ {dp un : Nat} {gd : Option (List Code)} {cn : Str} {cs : Scope} {a : Addr} {ccd : Value} {cl : List (Str × Addr)} {outer : List Env} {A₀ : Around} {base h₀ : Heap} {L : Addr} {m : Str → Option Value} {s : Shared} {Q E : Value → Shared → Prop},
    Below A₀ base outer h₀ → Fr h₀ L s.heap m → (hd.heap_39 w.params).In h₀ → News h₀ L s.heap news → Top topProg loose mean mg mb h₀ → cs.kind = .function → dp + 1 < recursionLimit → un + 8 < cLine →
    (∀ t h' tk', Fr h₀ L h' m → News h₀ L h' news → Q (.int r t) { s with heap := h', toks := tk' }) → wpAny (model prog w) (ktrTop dp un gd cn cs L a ccd cl outer) (call (.ref kf) [v]) Q E s
/-- the key on every item -/
def KeysOk (prog : Program) (w : World) (loose : List Str) (mean : ExcName → Option Value) (mg mb : Str → Option Value) (news : List (Addr × Obj)) (kf : Addr) (vs : List Value) (kk : Nat → Int) : Prop :=
  ∀ i v, vs[i]? = some v → KeyOk prog w loose mean mg mb news kf v (kk i)
theorem KeysOk.use {prog : Program} {w : World} {loose : List Str} {mean : ExcName → Option Value} {mg mb : Str → Option Value} {news : List (Addr × Obj)} {kf : Addr} {vs : List Value} {kk : Nat → Int} {v : Value} {i : Nat}
    {dp un : Nat} {gd : Option (List Code)} {cn : Str} {cs : Scope} {a : Addr} {ccd : Value} {cl : List (Str × Addr)} {outer : List Env} {A₀ : Around} {base h₀ : Heap} {L : Addr} {m : Str → Option Value} {s : Shared} {Q E : Value → Shared → Prop}
    (H : KeysOk prog w loose mean mg mb news kf vs kk) (hv : vs[i]? = some v) (B : Below A₀ base outer h₀) (F : Fr h₀ L s.heap m) (X : (hd.heap_39 w.params).In h₀) (N : News h₀ L s.heap news) (T : Top topProg loose mean mg mb h₀) (hk : cs.kind = .function) (hd : dp + 1 < recursionLimit) (hu : un + 8 < cLine)
    (hret : ∀ t h' tk', Fr h₀ L h' m → News h₀ L h' news → Q (.int (kk i) t) { s with heap := h', toks := tk' }) : wpAny (model prog w) (ktrTop dp un gd cn cs L a ccd cl outer) (call (.ref kf) [v]) Q E s :=
  H i v hv B F X N T hk hd hu hret
theorem KeyOk.use {prog : Program} {w : World} {loose : List Str} {mean : ExcName → Option Value} {mg mb : Str → Option Value} {news : List (Addr × Obj)} {kf : Addr} {r : Int} {v : Value}
    {dp un : Nat} {gd : Option (List Code)} {cn : Str} {cs : Scope} {a : Addr} {ccd : Value} {cl : List (Str × Addr)} {outer : List Env} {A₀ : Around} {base h₀ : Heap} {L : Addr} {m : Str → Option Value} {s : Shared} {Q E : Value → Shared → Prop}
    (H : KeyOk prog w loose mean mg mb news kf v r) (B : Below A₀ base outer h₀) (F : Fr h₀ L s.heap m) (X : (hd.heap_39 w.params).In h₀) (N : News h₀ L s.heap news) (T : Top topProg loose mean mg mb h₀) (hk : cs.kind = .function) (hd : dp + 1 < recursionLimit) (hu : un + 8 < cLine)
    (hret : ∀ t h' tk', Fr h₀ L h' m → News h₀ L h' news → Q (.int r t) { s with heap := h', toks := tk' }) : wpAny (model prog w) (ktrTop dp un gd cn cs L a ccd cl outer) (call (.ref kf) [v]) Q E s :=
  H B F X N T hk hd hu hret
/-- the comparisons of x with the items: in any frame, item by item, the bool that lt tells; all stays as it was -/
def LtsOk (prog : Program) (w : World) (news : List (Addr × Obj)) (right : Bool) (vs : List Value) (xv : Value) (lt : Nat → Bool) : Prop :=
  ∀ i v, vs[i]? = some v → ∀ {A : Around} {h₀ : Heap} {L : Addr} {m : Str → Option Value} {s : Shared} {Q E : Value → Shared → Prop}, A.units < cLine → Fr h₀ L s.heap m → (hd.heap_39 w.params).In h₀ → News h₀ L s.heap news →
    (∀ h' tk', Fr h₀ L h' m → News h₀ L h' news → Q (.bool (lt i)) { s with heap := h', toks := tk' }) → wpAny (model prog w) A (compareOp .Lt (if right then xv else v) (if right then v else xv)) Q E s
theorem LtsOk.useR {prog : Program} {w : World} {news : List (Addr × Obj)} {vs : List Value} {xv v : Value} {lt : Nat → Bool} {i : Nat} {A : Around} {h₀ : Heap} {L : Addr} {m : Str → Option Value} {s : Shared} {Q E : Value → Shared → Prop}
    (H : LtsOk prog w news true vs xv lt) (hv : vs[i]? = some v) (hu : A.units < cLine) (F : Fr h₀ L s.heap m) (X : (hd.heap_39 w.params).In h₀) (N : News h₀ L s.heap news)
    (hret : ∀ h' tk', Fr h₀ L h' m → News h₀ L h' news → Q (.bool (lt i)) { s with heap := h', toks := tk' }) : wpAny (model prog w) A (compareOp .Lt xv v) Q E s := H i v hv hu F X N hret
theorem LtsOk.useL {prog : Program} {w : World} {news : List (Addr × Obj)} {vs : List Value} {xv v : Value} {lt : Nat → Bool} {i : Nat} {A : Around} {h₀ : Heap} {L : Addr} {m : Str → Option Value} {s : Shared} {Q E : Value → Shared → Prop}
    (H : LtsOk prog w news false vs xv lt) (hv : vs[i]? = some v) (hu : A.units < cLine) (F : Fr h₀ L s.heap m) (X : (hd.heap_39 w.params).In h₀) (N : News h₀ L s.heap news)
    (hret : ∀ h' tk', Fr h₀ L h' m → News h₀ L h' news → Q (.bool (lt i)) { s with heap := h', toks := tk' }) : wpAny (model prog w) A (compareOp .Lt v xv) Q E s := H i v hv hu F X N hret
theorem updF_toUpd {d : Addr} {o o' : Obj} {l : List (Addr × Obj)} {g : Obj → List (Addr × Obj)} (U : UpdF d o l g) : Upd d o o' l (g o') := by
  induction U with
  | head h => exact .head h
  | tail h _ ih => exact .tail h ih
theorem updF_mem {d : Addr} {o : Obj} {l : List (Addr × Obj)} {g : Obj → List (Addr × Obj)} (U : UpdF d o l g) : (d, o) ∈ l := by
  induction U with
  | head h => exact .head _
  | tail h _ ih => exact .tail _ ih
theorem kl_insAt (vs : List Value) (r : Nat) (y : Value) (hr : r ≤ vs.length) : kl_ins vs (r : Int) y = insAt r y vs := by
  have h1 : ¬ ((r : Int) < 0) := by omega
  have h2 : min (r : Int).toNat vs.length = r := by omega
  unfold kl_ins insAt
  rw [if_neg h1, h2]
theorem my_insert {prog : Program} {w : World} {A : Around} {E : Value → Shared → Prop} {s : Shared} {h₀ : Heap} {L D : Addr} {m : Str → Option Value} {news : List (Addr × Obj)} {g : Obj → List (Addr × Obj)} {vs : List Value} {n r : Nat} {u : Tok} {y : Value} {Q : Value → Shared → Prop}
    (F : Fr h₀ L s.heap m) (N : News h₀ L s.heap news) (U : UpdF D (listOf vs.toArray n) news g) (hr : r ≤ vs.length) (hfit : vs.length < 1000)
    (h : ∀ h', Fr h₀ L h' m → News h₀ L h' (g (listOf (insAt r y vs).toArray (n + 1))) → Q .none { s with heap := h' }) :
    wpAny (model prog w) A (call (.builtin "list.insert") [.ref D, .int (r : Int) u, y]) Q E s := by
  refine kl_insert (l := insAt r y vs) (x := (r : Int)) (y := y) F N ?_ (kl_insAt vs r y hr) (updF_toUpd U) ?_ h
  · have : (r : Int) < 1000 := by omega
    simp only [Builtin.List.listFitsIndex]
    simp
    omega
  · rw [PySem.sizeLine_eq]
    show vs.length ≤ _
    omega
/-- an item of a list of the ledger at a written place -/
theorem my_itemC {prog : Program} {w : World} {A : Around} {E : Value → Shared → Prop} {s : Shared} {h₀ : Heap} {L l : Addr} {news : List (Addr × Obj)} {us : List Value} {c : Nat} {value slice : PySem.Expr} {k : Int} {u : Tok} {v : Value} {Q : Value → Shared → Prop} (N : News h₀ L s.heap news) (hm : (l, listOf us.toArray c) ∈ news)
    (h0 : 0 ≤ k) (h1 : k < 2 ^ 63) (hx : us[k.toNat]? = some v) (h : Q v s)
    (hs : subscripted slice false (.ref l) (.int k u) = operate [.ref l, .int k u] (getItem (.ref l) (.int k u)) := by with_unfolding_all rfl) :
    wpAny (model prog w) A (subscriptTail value slice (.ref l) (.int k u)) Q E s := by
  have hl : s.heap.IsList l us.toArray := ⟨_, (N _ hm).1, rfl, c, rfl⟩
  exact tail_any hl.typeIs slot_list_getitem.lookup (wpAny_getItem_list hl h0 h1 (by simpa using hx) h) hs

end
section
theorem words_bisect : True := by
  k_with_none
  (k_with "CJ" => (with_reducible first | assumption | exact cj0 ‹_› | exact cj1 ‹_› | exact cl1 ‹_› | exact cj2 ‹_› | exact cl2 ‹_› | exact cj3 ‹_› | exact cl3 ‹_› | exact cj4 ‹_› | exact cl4 ‹_› | exact cj5 ‹_› | exact cl5 ‹_› | exact cj6 ‹_› | exact cl6 ‹_› | exact cj7 ‹_› | exact cl7 ‹_› | exact cj8 ‹_› | exact cl8 ‹_› | exact cj9 ‹_› | exact cl9 ‹_› | exact cj10 ‹_› | exact cl10 ‹_› | exact cj11 ‹_› | exact cl11 ‹_› | exact cj12 ‹_› | exact cl12 ‹_›))
  (k_with "k_ne" => (((refine neN ?_); (try dsimp only); first | exact Nat.ne_of_gt (by k_extra "CJ") | exact Nat.ne_of_lt (by k_extra "CJ") | k_extra "CJ" | exact Ne.symm (by k_extra "CJ"))))
  (k_with "ktr_room" => (first | exact rm0 ‹_› | exact rm1 ‹_› rfl | exact rm2 ‹_› rfl | exact rm3 ‹_› rfl))
  (k_with "ktr_units" => (first | exact rm0 ‹_› | exact rm1 ‹_› rfl | exact rm2 ‹_› rfl | exact rm3 ‹_› rfl))
  (k_with "k_mem" => (first | exact List.Mem.head _ | (refine' List.Mem.tail _ ?_; k_mem) | (show (_ : Addr × Obj) ∈ (_ : List (Addr × Obj)); with_reducible assumption)))
  (k_with "BINDS" => (first | exact BindsTo.of_eq rfl | exact binds_K (by k_in) rfl (by k_is) rfl rfl rfl | (refine' kp_binds ?zzkx ?zzke; (case zzkx => k_in); (case zzke => exact fun _ => rfl))))
  (k_with "ENTER" => ((refine wpAny_call ?_; first | k_dflt (refine' code_def ?zzk1 ?zzk2 ?zzk3 ?zzk4 ?zzk5 ?zzkA ?zzkF ?zzkK ?zzk6 ?zzk7 ?zzk8 ?zzk9 ?zzkB ?_ ?zzc2 ?zzc3 ?zzc4 ?zzc5; (case zzkA => exact rfl); (case zzkF => exact rfl); (case zzkK => assumption); (case zzk1 => k_asm); (case zzk2 => k_asm); (case zzk3 => k_asm); (case zzk4 => k_asm); (case zzk5 => k_asm); (case zzk6 => k_is); (case zzk7 => k_is); (case zzk8 => ktr_room); (case zzk9 => walk_at "BINDS"); (case zzc5 => decide); (case zzkB => exact locs rfl); (case zzc2 => exact rfl); (case zzc3 => exact rfl); (case zzc4 => exact rfl); k_whole; (first | (k_extra "EPSENT"; refine no_implicit_lambda% (all_eps3 (i := by k_extra "NE9") ?_); generalize pj0 _ = g', pj1 _ = L', pj2 _ = h'; intro FG' F' N' B' X' T') | intro g' L' h' FG' F' N' B' X' T'); (try dsimp only); (try k_lift B'); (try k_fold)) | k_dflt (refine' code_defC ?zzk1 ?zzk2 ?zzk3 ?zzk4 ?zzk5 ?zzkA ?zzkF ?zzkK ?zzk6 ?zzk7 ?zzk8 ?zzk9 ?zzkB ?zzkD ?_ ?zzc2 ?zzc3 ?zzc4; (case zzkA => exact rfl); (case zzkF => exact rfl); (case zzkK => assumption); (case zzk1 => k_asm); (case zzk2 => k_asm); (case zzk3 => k_asm); (case zzk4 => k_asm); (case zzk5 => k_asm); (case zzk6 => k_is); (case zzk7 => k_is); (case zzk8 => ktr_room); (case zzk9 => walk_at "BINDS"); (case zzkB => exact rfl); (case zzkD => decide +kernel); (case zzc2 => exact rfl); (case zzc3 => exact rfl); (case zzc4 => exact rfl); k_whole; (first | (k_extra "EPSENT"; refine no_implicit_lambda% (all_eps5 (i := by k_extra "NE9") ?_); generalize pj0 _ = g', pj1 _ = L', pj2 _ = h', pj3 _ = tk', pj4 _ = cells'; intro FG' F' N' Y' B' X' T' l1) | intro g' L' h' tk' cells' FG' F' N' Y' B' X' T' l1); (try k_lt l1); k_cells Y'; (try simp only [List.cons_append, List.nil_append] at N'); (try dsimp only); (try k_lift B'); (try k_fold)))))
  (k_with "callWith ref" => ((k_here; k_dflt (first | (refine' callWith_K ?zzk1 ?zzk2 ?_; (case zzk1 => k_asm); (case zzk2 => k_is); k_whole) | (refine' callWith_KW ?zzk1 ?zzk2 ?zzk3 ?_; (case zzk1 => k_asm); (case zzk2 => k_is); (case zzk3 => exact rfl); k_whole)))))
  (k_with "call builtin:len" => ((k_here; (with_reducible show wpAny _ _ (call (Value.builtin "len") [Value.ref _]) _ _ _); k_dflt (refine' my_len ?zzk1 ?zzk2 ?zzk3 ?_; (case zzk1 => k_asm); (case zzk2 => k_mem); (case zzk3 => first | assumption | omega); k_whole))))
  (k_with "callWith ref" => ((k_here; k_dflt (refine' callWith_Fn1 ?zzkf ?_; (case zzkf => with_reducible assumption); k_whole))))
  (k_with "And" => (((with_reducible show IsFn _ _ ∧ _); refine ⟨KeyFn.get (by with_reducible assumption) (by k_in) (by k_asm), ?_⟩; try dsimp only [List.nil_append, List.cons_append])))
  exact True.intro
theorem words_bisect_1 : True := by
  (k_with "subscriptTail" => ((k_here; (with_reducible show wpAny _ _ (subscriptTail _ _ (Value.ref _) (Value.int _ _)) _ _ _); (rename BisW _ _ _ _ => hw9); k_dflt (refine' my_item ?zzk1 ?zzk2 ?zzk3 ?zzk4 ?zzk5 ?_; (case zzk1 => k_asm); (case zzk2 => k_mem); (case zzk3 => first | assumption | omega); (case zzk4 => exact (mid_bounds hw9 (by assumption)).1); (case zzk5 => exact (mid_bounds hw9 (by assumption)).2.2.2); k_whole); intro v9 hv9)))
  (k_with "call ref" => ((k_here; k_dflt (refine' KeysOk.use ?zzkH ?zzkv ?zzk1 ?zzk2 ?zzk3 ?zzk4 ?zzk5 ?zzkK ?zzkd ?zzku ?_; (case zzkH => with_reducible assumption); (case zzkv => with_reducible assumption); (case zzk1 => k_asm); (case zzk2 => k_asm); (case zzk3 => k_asm); (case zzk4 => k_asm); (case zzk5 => k_asm); (case zzkK => first | exact rfl | assumption); (case zzkd => ktr_room); (case zzku => ktr_units); k_whole); intro t9 h9 tk9 F9 N9; (try dsimp only); (try k_fold))))
  (k_with "compareOp" => ((k_here; k_dflt (first | (refine' LtsOk.useR ?zzkH ?zzkv ?zzku ?zzk2 ?zzk3 ?zzk4 ?_; (case zzkH => with_reducible assumption); (case zzkv => with_reducible assumption); (case zzku => ktr_units); (case zzk2 => k_asm); (case zzk3 => k_asm); (case zzk4 => k_asm); k_whole) | (refine' LtsOk.useL ?zzkH ?zzkv ?zzku ?zzk2 ?zzk3 ?zzk4 ?_; (case zzkH => with_reducible assumption); (case zzkv => with_reducible assumption); (case zzku => ktr_units); (case zzk2 => k_asm); (case zzk3 => k_asm); (case zzk4 => k_asm); k_whole)); intro h9 tk9 F9 N9; (try dsimp only); (try k_fold))))
  exact True.intro
/-- a def's data, as the written part of the heap holds them -/
noncomputable def fnData (P : Params) (f : Addr) : Option FuncData := match (hd.heap_39 P).lookup f with
  | some ⟨_, _, .func fd, _⟩ => some fd
  | _ => none
/-- what the arguments bind -/
def BindB (w : World) (f : Addr) (pos : List Value) (kw : List (Str × Value)) (binds : List (Str × Value)) : Prop := ∀ S, match fnData w.params f with
  | some fd => peek (hd.heap_39 w.params) S (bindArgs fd ⟨pos, kw⟩) = some binds
  | none => False
theorem bR_keyW {prog : Program} {w : World} {loose : List Str} {mean : ExcName → Option Value} {mg mb : Str → Option Value}
    {dp un : Nat} {gd : Option (List Code)} {cn : Str} {cs : Scope} {a : Addr} {ccd : Value} {cl : List (Str × Addr)} {outer : List Env} {A₀ : Around} {base h₀ : Heap} {L : Addr} {m : Str → Option Value} {s : Shared} {Q E : Value → Shared → Prop} {news : List (Addr × Obj)}
    {l kf : Addr} {vs : List Value} {n : Nat} {x : Int} {tx t0 : Tok} {kk : Nat → Int}
    {pos : List Value} {kw : List (Str × Value)} (hbd : BindB w 32 pos kw [("a", .ref l), ("x", .int x tx), ("lo", .int 0 t0), ("hi", .none), ("key", .ref kf)])
    (B : Below A₀ base outer h₀) (F : Fr h₀ L s.heap m) (X : (hd.heap_39 w.params).In h₀) (N : News h₀ L s.heap news) (T : Top topProg loose mean mg mb h₀) (hk : cs.kind = .function)
    (hdp : dp + 2 < recursionLimit) (hun : un + 16 < cLine) (hl : (l, listOf vs.toArray n) ∈ news) (hlen : vs.length < 1000) (hfn : KeyFn w news kf) (hkey : KeysOk prog w loose mean mg mb news kf vs kk)
    (hret : ∀ t h' tk', Fr h₀ L h' m → News h₀ L h' news → Q (.int (bisN (fun i => decide (kk i ≤ x)) 0 vs.length : Nat) t) { s with heap := h', toks := tk' }) :
    wpAny (model prog w) (ktrTop dp un gd cn cs L a ccd cl outer) (call (.ref 32) pos kw) Q E s := by
  (k_with "exec While Compare cons nil" => k_while (fun _ lo hi => BisW (fun i => decide (kk i ≤ x)) vs.length lo hi) (fun _ lo hi => (hi - lo).toNat) "lo" "hi")
  (k_with "state" => first | exact BisW.down (by assumption) (by assumption) (by first | exact decide_eq_false (by omega) | simp only [*, Bool.not_true, Bool.not_false]) | exact BisW.up (by assumption) (by assumption) (by first | exact decide_eq_true (by omega) | simp only [*, Bool.not_true, Bool.not_false]) | exact BisW.start _ _)
  (k_with "measure" => first | exact bis_meas1 (by assumption) (by assumption) | exact bis_meas2 (by assumption) (by assumption))
  (k_with "BINDS" => exact kp_binds (by k_in) hbd)
  walk_at "ENTER"
  k_steps
  all_goals (have e9 := BisW.fin (by assumption) (by assumption); subst e9; exact hret _ _ _ (by assumption) (by assumption))
theorem bL_keyW {prog : Program} {w : World} {loose : List Str} {mean : ExcName → Option Value} {mg mb : Str → Option Value}
    {dp un : Nat} {gd : Option (List Code)} {cn : Str} {cs : Scope} {a : Addr} {ccd : Value} {cl : List (Str × Addr)} {outer : List Env} {A₀ : Around} {base h₀ : Heap} {L : Addr} {m : Str → Option Value} {s : Shared} {Q E : Value → Shared → Prop} {news : List (Addr × Obj)}
    {l kf : Addr} {vs : List Value} {n : Nat} {x : Int} {tx t0 : Tok} {kk : Nat → Int}
    {pos : List Value} {kw : List (Str × Value)} (hbd : BindB w 50 pos kw [("a", .ref l), ("x", .int x tx), ("lo", .int 0 t0), ("hi", .none), ("key", .ref kf)])
    (B : Below A₀ base outer h₀) (F : Fr h₀ L s.heap m) (X : (hd.heap_39 w.params).In h₀) (N : News h₀ L s.heap news) (T : Top topProg loose mean mg mb h₀) (hk : cs.kind = .function)
    (hdp : dp + 2 < recursionLimit) (hun : un + 16 < cLine) (hl : (l, listOf vs.toArray n) ∈ news) (hlen : vs.length < 1000) (hfn : KeyFn w news kf) (hkey : KeysOk prog w loose mean mg mb news kf vs kk)
    (hret : ∀ t h' tk', Fr h₀ L h' m → News h₀ L h' news → Q (.int (bisN (fun i => decide (kk i < x)) 0 vs.length : Nat) t) { s with heap := h', toks := tk' }) :
    wpAny (model prog w) (ktrTop dp un gd cn cs L a ccd cl outer) (call (.ref 50) pos kw) Q E s := by
  (k_with "exec While Compare cons nil" => k_while (fun _ lo hi => BisW (fun i => decide (kk i < x)) vs.length lo hi) (fun _ lo hi => (hi - lo).toNat) "lo" "hi")
  (k_with "state" => first | exact BisW.down (by assumption) (by assumption) (by first | exact decide_eq_false (by omega) | simp only [*, Bool.not_true, Bool.not_false]) | exact BisW.up (by assumption) (by assumption) (by first | exact decide_eq_true (by omega) | simp only [*, Bool.not_true, Bool.not_false]) | exact BisW.start _ _)
  (k_with "measure" => first | exact bis_meas1 (by assumption) (by assumption) | exact bis_meas2 (by assumption) (by assumption))
  (k_with "BINDS" => exact kp_binds (by k_in) hbd)
  walk_at "ENTER"
  k_steps
  all_goals (have e9 := BisW.fin (by assumption) (by assumption); subst e9; exact hret _ _ _ (by assumption) (by assumption))
theorem bR_noW {prog : Program} {w : World} {loose : List Str} {mean : ExcName → Option Value} {mg mb : Str → Option Value}
    {dp un : Nat} {gd : Option (List Code)} {cn : Str} {cs : Scope} {a : Addr} {ccd : Value} {cl : List (Str × Addr)} {outer : List Env} {A₀ : Around} {base h₀ : Heap} {L : Addr} {m : Str → Option Value} {s : Shared} {Q E : Value → Shared → Prop} {news : List (Addr × Obj)}
    {l : Addr} {vs : List Value} {n : Nat} {xv : Value} {t0 : Tok} {lt : Nat → Bool}
    {pos : List Value} {kw : List (Str × Value)} (hbd : BindB w 32 pos kw [("a", .ref l), ("x", xv), ("lo", .int 0 t0), ("hi", .none), ("key", .none)])
    (B : Below A₀ base outer h₀) (F : Fr h₀ L s.heap m) (X : (hd.heap_39 w.params).In h₀) (N : News h₀ L s.heap news) (T : Top topProg loose mean mg mb h₀) (hk : cs.kind = .function)
    (hdp : dp + 2 < recursionLimit) (hun : un + 16 < cLine) (hl : (l, listOf vs.toArray n) ∈ news) (hlen : vs.length < 1000) (hlt : LtsOk prog w news true vs xv lt)
    (hret : ∀ t h' tk', Fr h₀ L h' m → News h₀ L h' news → Q (.int (bisN (fun i => !(lt i)) 0 vs.length : Nat) t) { s with heap := h', toks := tk' }) :
    wpAny (model prog w) (ktrTop dp un gd cn cs L a ccd cl outer) (call (.ref 32) pos kw) Q E s := by
  (k_with "exec While Compare cons nil" => k_while (fun _ lo hi => BisW (fun i => !(lt i)) vs.length lo hi) (fun _ lo hi => (hi - lo).toNat) "lo" "hi")
  (k_with "state" => first | exact BisW.down (by assumption) (by assumption) (by first | exact decide_eq_false (by omega) | simp only [*, Bool.not_true, Bool.not_false]) | exact BisW.up (by assumption) (by assumption) (by first | exact decide_eq_true (by omega) | simp only [*, Bool.not_true, Bool.not_false]) | exact BisW.start _ _)
  (k_with "measure" => first | exact bis_meas1 (by assumption) (by assumption) | exact bis_meas2 (by assumption) (by assumption))
  (k_with "BINDS" => exact kp_binds (by k_in) hbd)
  walk_at "ENTER"
  k_steps
  all_goals (have e9 := BisW.fin (by assumption) (by assumption); subst e9; exact hret _ _ _ (by assumption) (by assumption))
theorem bL_noW {prog : Program} {w : World} {loose : List Str} {mean : ExcName → Option Value} {mg mb : Str → Option Value}
    {dp un : Nat} {gd : Option (List Code)} {cn : Str} {cs : Scope} {a : Addr} {ccd : Value} {cl : List (Str × Addr)} {outer : List Env} {A₀ : Around} {base h₀ : Heap} {L : Addr} {m : Str → Option Value} {s : Shared} {Q E : Value → Shared → Prop} {news : List (Addr × Obj)}
    {l : Addr} {vs : List Value} {n : Nat} {xv : Value} {t0 : Tok} {lt : Nat → Bool}
    {pos : List Value} {kw : List (Str × Value)} (hbd : BindB w 50 pos kw [("a", .ref l), ("x", xv), ("lo", .int 0 t0), ("hi", .none), ("key", .none)])
    (B : Below A₀ base outer h₀) (F : Fr h₀ L s.heap m) (X : (hd.heap_39 w.params).In h₀) (N : News h₀ L s.heap news) (T : Top topProg loose mean mg mb h₀) (hk : cs.kind = .function)
    (hdp : dp + 2 < recursionLimit) (hun : un + 16 < cLine) (hl : (l, listOf vs.toArray n) ∈ news) (hlen : vs.length < 1000) (hlt : LtsOk prog w news false vs xv lt)
    (hret : ∀ t h' tk', Fr h₀ L h' m → News h₀ L h' news → Q (.int (bisN (fun i => lt i) 0 vs.length : Nat) t) { s with heap := h', toks := tk' }) :
    wpAny (model prog w) (ktrTop dp un gd cn cs L a ccd cl outer) (call (.ref 50) pos kw) Q E s := by
  (k_with "exec While Compare cons nil" => k_while (fun _ lo hi => BisW (fun i => lt i) vs.length lo hi) (fun _ lo hi => (hi - lo).toNat) "lo" "hi")
  (k_with "state" => first | exact BisW.down (by assumption) (by assumption) (by first | exact decide_eq_false (by omega) | simp only [*, Bool.not_true, Bool.not_false]) | exact BisW.up (by assumption) (by assumption) (by first | exact decide_eq_true (by omega) | simp only [*, Bool.not_true, Bool.not_false]) | exact BisW.start _ _)
  (k_with "measure" => first | exact bis_meas1 (by assumption) (by assumption) | exact bis_meas2 (by assumption) (by assumption))
  (k_with "BINDS" => exact kp_binds (by k_in) hbd)
  walk_at "ENTER"
  k_steps
  all_goals (have e9 := BisW.fin (by assumption) (by assumption); subst e9; exact hret _ _ _ (by assumption) (by assumption))
theorem bR_key4 {prog : Program} {w : World} {loose : List Str} {mean : ExcName → Option Value} {mg mb : Str → Option Value}
    {dp un : Nat} {gd : Option (List Code)} {cn : Str} {cs : Scope} {a : Addr} {ccd : Value} {cl : List (Str × Addr)} {outer : List Env} {A₀ : Around} {base h₀ : Heap} {L : Addr} {m : Str → Option Value} {s : Shared} {Q E : Value → Shared → Prop} {news : List (Addr × Obj)}
    {l kf : Addr} {vs : List Value} {n : Nat} {x : Int} {tx t0 : Tok} {kk : Nat → Int}
    (B : Below A₀ base outer h₀) (F : Fr h₀ L s.heap m) (X : (hd.heap_39 w.params).In h₀) (N : News h₀ L s.heap news) (T : Top topProg loose mean mg mb h₀) (hk : cs.kind = .function)
    (hdp : dp + 2 < recursionLimit) (hun : un + 16 < cLine) (hl : (l, listOf vs.toArray n) ∈ news) (hlen : vs.length < 1000) (hfn : KeyFn w news kf) (hkey : KeysOk prog w loose mean mg mb news kf vs kk)
    (hret : ∀ t h' tk', Fr h₀ L h' m → News h₀ L h' news → Q (.int (bisN (fun i => decide (kk i ≤ x)) 0 vs.length : Nat) t) { s with heap := h', toks := tk' }) :
    wpAny (model prog w) (ktrTop dp un gd cn cs L a ccd cl outer) (call (.ref 32) [.ref l, .int x tx, .int 0 t0, .none] [("key", .ref kf)]) Q E s :=
  bR_keyW (fun _ => rfl) B F X N T hk hdp hun hl hlen hfn hkey hret
theorem bL_key4 {prog : Program} {w : World} {loose : List Str} {mean : ExcName → Option Value} {mg mb : Str → Option Value}
    {dp un : Nat} {gd : Option (List Code)} {cn : Str} {cs : Scope} {a : Addr} {ccd : Value} {cl : List (Str × Addr)} {outer : List Env} {A₀ : Around} {base h₀ : Heap} {L : Addr} {m : Str → Option Value} {s : Shared} {Q E : Value → Shared → Prop} {news : List (Addr × Obj)}
    {l kf : Addr} {vs : List Value} {n : Nat} {x : Int} {tx t0 : Tok} {kk : Nat → Int}
    (B : Below A₀ base outer h₀) (F : Fr h₀ L s.heap m) (X : (hd.heap_39 w.params).In h₀) (N : News h₀ L s.heap news) (T : Top topProg loose mean mg mb h₀) (hk : cs.kind = .function)
    (hdp : dp + 2 < recursionLimit) (hun : un + 16 < cLine) (hl : (l, listOf vs.toArray n) ∈ news) (hlen : vs.length < 1000) (hfn : KeyFn w news kf) (hkey : KeysOk prog w loose mean mg mb news kf vs kk)
    (hret : ∀ t h' tk', Fr h₀ L h' m → News h₀ L h' news → Q (.int (bisN (fun i => decide (kk i < x)) 0 vs.length : Nat) t) { s with heap := h', toks := tk' }) :
    wpAny (model prog w) (ktrTop dp un gd cn cs L a ccd cl outer) (call (.ref 50) [.ref l, .int x tx, .int 0 t0, .none] [("key", .ref kf)]) Q E s :=
  bL_keyW (fun _ => rfl) B F X N T hk hdp hun hl hlen hfn hkey hret
theorem bL_key2 {prog : Program} {w : World} {loose : List Str} {mean : ExcName → Option Value} {mg mb : Str → Option Value}
    {dp un : Nat} {gd : Option (List Code)} {cn : Str} {cs : Scope} {a : Addr} {ccd : Value} {cl : List (Str × Addr)} {outer : List Env} {A₀ : Around} {base h₀ : Heap} {L : Addr} {m : Str → Option Value} {s : Shared} {Q E : Value → Shared → Prop} {news : List (Addr × Obj)}
    {l kf : Addr} {vs : List Value} {n : Nat} {x : Int} {tx : Tok} {kk : Nat → Int}
    (B : Below A₀ base outer h₀) (F : Fr h₀ L s.heap m) (X : (hd.heap_39 w.params).In h₀) (N : News h₀ L s.heap news) (T : Top topProg loose mean mg mb h₀) (hk : cs.kind = .function)
    (hdp : dp + 2 < recursionLimit) (hun : un + 16 < cLine) (hl : (l, listOf vs.toArray n) ∈ news) (hlen : vs.length < 1000) (hfn : KeyFn w news kf) (hkey : KeysOk prog w loose mean mg mb news kf vs kk)
    (hret : ∀ t h' tk', Fr h₀ L h' m → News h₀ L h' news → Q (.int (bisN (fun i => decide (kk i < x)) 0 vs.length : Nat) t) { s with heap := h', toks := tk' }) :
    wpAny (model prog w) (ktrTop dp un gd cn cs L a ccd cl outer) (call (.ref 50) [.ref l, .int x tx] [("key", .ref kf)]) Q E s :=
  bL_keyW (fun _ => rfl) B F X N T hk hdp hun hl hlen hfn hkey hret
theorem bR_no4 {prog : Program} {w : World} {loose : List Str} {mean : ExcName → Option Value} {mg mb : Str → Option Value}
    {dp un : Nat} {gd : Option (List Code)} {cn : Str} {cs : Scope} {a : Addr} {ccd : Value} {cl : List (Str × Addr)} {outer : List Env} {A₀ : Around} {base h₀ : Heap} {L : Addr} {m : Str → Option Value} {s : Shared} {Q E : Value → Shared → Prop} {news : List (Addr × Obj)}
    {l : Addr} {vs : List Value} {n : Nat} {xv : Value} {t0 : Tok} {lt : Nat → Bool}
    (B : Below A₀ base outer h₀) (F : Fr h₀ L s.heap m) (X : (hd.heap_39 w.params).In h₀) (N : News h₀ L s.heap news) (T : Top topProg loose mean mg mb h₀) (hk : cs.kind = .function)
    (hdp : dp + 2 < recursionLimit) (hun : un + 16 < cLine) (hl : (l, listOf vs.toArray n) ∈ news) (hlen : vs.length < 1000) (hlt : LtsOk prog w news true vs xv lt)
    (hret : ∀ t h' tk', Fr h₀ L h' m → News h₀ L h' news → Q (.int (bisN (fun i => !(lt i)) 0 vs.length : Nat) t) { s with heap := h', toks := tk' }) :
    wpAny (model prog w) (ktrTop dp un gd cn cs L a ccd cl outer) (call (.ref 32) [.ref l, xv, .int 0 t0, .none] []) Q E s :=
  bR_noW (fun _ => rfl) B F X N T hk hdp hun hl hlen hlt hret
theorem bL_no4 {prog : Program} {w : World} {loose : List Str} {mean : ExcName → Option Value} {mg mb : Str → Option Value}
    {dp un : Nat} {gd : Option (List Code)} {cn : Str} {cs : Scope} {a : Addr} {ccd : Value} {cl : List (Str × Addr)} {outer : List Env} {A₀ : Around} {base h₀ : Heap} {L : Addr} {m : Str → Option Value} {s : Shared} {Q E : Value → Shared → Prop} {news : List (Addr × Obj)}
    {l : Addr} {vs : List Value} {n : Nat} {xv : Value} {t0 : Tok} {lt : Nat → Bool}
    (B : Below A₀ base outer h₀) (F : Fr h₀ L s.heap m) (X : (hd.heap_39 w.params).In h₀) (N : News h₀ L s.heap news) (T : Top topProg loose mean mg mb h₀) (hk : cs.kind = .function)
    (hdp : dp + 2 < recursionLimit) (hun : un + 16 < cLine) (hl : (l, listOf vs.toArray n) ∈ news) (hlen : vs.length < 1000) (hlt : LtsOk prog w news false vs xv lt)
    (hret : ∀ t h' tk', Fr h₀ L h' m → News h₀ L h' news → Q (.int (bisN (fun i => lt i) 0 vs.length : Nat) t) { s with heap := h', toks := tk' }) :
    wpAny (model prog w) (ktrTop dp un gd cn cs L a ccd cl outer) (call (.ref 50) [.ref l, xv, .int 0 t0, .none] []) Q E s :=
  bL_noW (fun _ => rfl) B F X N T hk hdp hun hl hlen hlt hret
theorem bR_no2 {prog : Program} {w : World} {loose : List Str} {mean : ExcName → Option Value} {mg mb : Str → Option Value}
    {dp un : Nat} {gd : Option (List Code)} {cn : Str} {cs : Scope} {a : Addr} {ccd : Value} {cl : List (Str × Addr)} {outer : List Env} {A₀ : Around} {base h₀ : Heap} {L : Addr} {m : Str → Option Value} {s : Shared} {Q E : Value → Shared → Prop} {news : List (Addr × Obj)}
    {l : Addr} {vs : List Value} {n : Nat} {xv : Value} {lt : Nat → Bool}
    (B : Below A₀ base outer h₀) (F : Fr h₀ L s.heap m) (X : (hd.heap_39 w.params).In h₀) (N : News h₀ L s.heap news) (T : Top topProg loose mean mg mb h₀) (hk : cs.kind = .function)
    (hdp : dp + 2 < recursionLimit) (hun : un + 16 < cLine) (hl : (l, listOf vs.toArray n) ∈ news) (hlen : vs.length < 1000) (hlt : LtsOk prog w news true vs xv lt)
    (hret : ∀ t h' tk', Fr h₀ L h' m → News h₀ L h' news → Q (.int (bisN (fun i => !(lt i)) 0 vs.length : Nat) t) { s with heap := h', toks := tk' }) :
    wpAny (model prog w) (ktrTop dp un gd cn cs L a ccd cl outer) (call (.ref 32) [.ref l, xv] []) Q E s :=
  bR_noW (fun _ => rfl) B F X N T hk hdp hun hl hlen hlt hret
theorem bL_no2 {prog : Program} {w : World} {loose : List Str} {mean : ExcName → Option Value} {mg mb : Str → Option Value}
    {dp un : Nat} {gd : Option (List Code)} {cn : Str} {cs : Scope} {a : Addr} {ccd : Value} {cl : List (Str × Addr)} {outer : List Env} {A₀ : Around} {base h₀ : Heap} {L : Addr} {m : Str → Option Value} {s : Shared} {Q E : Value → Shared → Prop} {news : List (Addr × Obj)}
    {l : Addr} {vs : List Value} {n : Nat} {xv : Value} {lt : Nat → Bool}
    (B : Below A₀ base outer h₀) (F : Fr h₀ L s.heap m) (X : (hd.heap_39 w.params).In h₀) (N : News h₀ L s.heap news) (T : Top topProg loose mean mg mb h₀) (hk : cs.kind = .function)
    (hdp : dp + 2 < recursionLimit) (hun : un + 16 < cLine) (hl : (l, listOf vs.toArray n) ∈ news) (hlen : vs.length < 1000) (hlt : LtsOk prog w news false vs xv lt)
    (hret : ∀ t h' tk', Fr h₀ L h' m → News h₀ L h' news → Q (.int (bisN (fun i => lt i) 0 vs.length : Nat) t) { s with heap := h', toks := tk' }) :
    wpAny (model prog w) (ktrTop dp un gd cn cs L a ccd cl outer) (call (.ref 50) [.ref l, xv] []) Q E s :=
  bL_noW (fun _ => rfl) B F X N T hk hdp hun hl hlen hlt hret

end
section
theorem words_insort : True := by
  k_with_none
  (k_with "CJ" => (with_reducible first | assumption | exact cj0 ‹_› | exact cj1 ‹_› | exact cl1 ‹_› | exact cj2 ‹_› | exact cl2 ‹_› | exact cj3 ‹_› | exact cl3 ‹_› | exact cj4 ‹_› | exact cl4 ‹_› | exact cj5 ‹_› | exact cl5 ‹_› | exact cj6 ‹_› | exact cl6 ‹_› | exact cj7 ‹_› | exact cl7 ‹_› | exact cj8 ‹_› | exact cl8 ‹_› | exact cj9 ‹_› | exact cl9 ‹_› | exact cj10 ‹_› | exact cl10 ‹_› | exact cj11 ‹_› | exact cl11 ‹_› | exact cj12 ‹_› | exact cl12 ‹_›))
  (k_with "k_ne" => (((refine neN ?_); (try dsimp only); first | exact Nat.ne_of_gt (by k_extra "CJ") | exact Nat.ne_of_lt (by k_extra "CJ") | k_extra "CJ" | exact Ne.symm (by k_extra "CJ"))))
  (k_with "ktr_room" => (first | exact rm0 ‹_› | exact rm1 ‹_› rfl | exact rm2 ‹_› rfl | exact rm3 ‹_› rfl))
  (k_with "ktr_units" => (first | exact rm0 ‹_› | exact rm1 ‹_› rfl | exact rm2 ‹_› rfl | exact rm3 ‹_› rfl))
  (k_with "k_mem" => (first | exact List.Mem.head _ | (refine' List.Mem.tail _ ?_; k_mem) | (show (_ : Addr × Obj) ∈ (_ : List (Addr × Obj)); with_reducible assumption)))
  (k_with "BINDS" => (first | exact BindsTo.of_eq rfl | exact binds_K (by k_in) rfl (by k_is) rfl rfl rfl | (refine' kp_binds ?zzkx ?zzke; (case zzkx => k_in); (case zzke => exact fun _ => rfl))))
  (k_with "ENTER" => ((refine wpAny_call ?_; first | k_dflt (refine' code_def ?zzk1 ?zzk2 ?zzk3 ?zzk4 ?zzk5 ?zzkA ?zzkF ?zzkK ?zzk6 ?zzk7 ?zzk8 ?zzk9 ?zzkB ?_ ?zzc2 ?zzc3 ?zzc4 ?zzc5; (case zzkA => exact rfl); (case zzkF => exact rfl); (case zzkK => assumption); (case zzk1 => k_asm); (case zzk2 => k_asm); (case zzk3 => k_asm); (case zzk4 => k_asm); (case zzk5 => k_asm); (case zzk6 => k_is); (case zzk7 => k_is); (case zzk8 => ktr_room); (case zzk9 => walk_at "BINDS"); (case zzc5 => decide); (case zzkB => exact locs rfl); (case zzc2 => exact rfl); (case zzc3 => exact rfl); (case zzc4 => exact rfl); k_whole; (first | (k_extra "EPSENT"; refine no_implicit_lambda% (all_eps3 (i := by k_extra "NE9") ?_); generalize pj0 _ = g', pj1 _ = L', pj2 _ = h'; intro FG' F' N' B' X' T') | intro g' L' h' FG' F' N' B' X' T'); (try dsimp only); (try k_lift B'); (try k_fold)) | k_dflt (refine' code_defC ?zzk1 ?zzk2 ?zzk3 ?zzk4 ?zzk5 ?zzkA ?zzkF ?zzkK ?zzk6 ?zzk7 ?zzk8 ?zzk9 ?zzkB ?zzkD ?_ ?zzc2 ?zzc3 ?zzc4; (case zzkA => exact rfl); (case zzkF => exact rfl); (case zzkK => assumption); (case zzk1 => k_asm); (case zzk2 => k_asm); (case zzk3 => k_asm); (case zzk4 => k_asm); (case zzk5 => k_asm); (case zzk6 => k_is); (case zzk7 => k_is); (case zzk8 => ktr_room); (case zzk9 => walk_at "BINDS"); (case zzkB => exact rfl); (case zzkD => decide +kernel); (case zzc2 => exact rfl); (case zzc3 => exact rfl); (case zzc4 => exact rfl); k_whole; (first | (k_extra "EPSENT"; refine no_implicit_lambda% (all_eps5 (i := by k_extra "NE9") ?_); generalize pj0 _ = g', pj1 _ = L', pj2 _ = h', pj3 _ = tk', pj4 _ = cells'; intro FG' F' N' Y' B' X' T' l1) | intro g' L' h' tk' cells' FG' F' N' Y' B' X' T' l1); (try k_lt l1); k_cells Y'; (try simp only [List.cons_append, List.nil_append] at N'); (try dsimp only); (try k_lift B'); (try k_fold)))))
  (k_with "callWith ref" => ((k_here; k_dflt (first | (refine' callWith_K ?zzk1 ?zzk2 ?_; (case zzk1 => k_asm); (case zzk2 => k_is); k_whole) | (refine' callWith_KW ?zzk1 ?zzk2 ?zzk3 ?_; (case zzk1 => k_asm); (case zzk2 => k_is); (case zzk3 => exact rfl); k_whole)))))
  (k_with "call builtin:len" => ((k_here; (with_reducible show wpAny _ _ (call (Value.builtin "len") [Value.ref _]) _ _ _); k_dflt (refine' my_len ?zzk1 ?zzk2 ?zzk3 ?_; (case zzk1 => k_asm); (case zzk2 => k_mem); (case zzk3 => first | assumption | omega); k_whole))))
  (k_with "callWith ref" => ((k_here; k_dflt (refine' callWith_Fn1 ?zzkf ?_; (case zzkf => with_reducible assumption); k_whole))))
  (k_with "And" => (((with_reducible show IsFn _ _ ∧ _); refine ⟨KeyFn.get (by with_reducible assumption) (by k_in) (by k_asm), ?_⟩; try dsimp only [List.nil_append, List.cons_append])))
  exact True.intro
theorem words_insort_1 : True := by
  (k_with "call ref" => ((k_here; k_dflt (refine' KeyOk.use ?zzkH ?zzk1 ?zzk2 ?zzk3 ?zzk4 ?zzk5 ?zzkK ?zzkd ?zzku ?_; (case zzkH => with_reducible assumption); (case zzk1 => k_asm); (case zzk2 => k_asm); (case zzk3 => k_asm); (case zzk4 => k_asm); (case zzk5 => k_asm); (case zzkK => first | exact rfl | assumption); (case zzkd => ktr_room); (case zzku => ktr_units); k_whole); intro t9 h9 tk9 F9 N9; (try dsimp only); (try k_fold))))
  (k_with "call ref" => ((k_here; k_dflt ((first | refine' bR_key4 ?zzk1 ?zzk2 ?zzk3 ?zzk4 ?zzk5 ?zzkK ?zzkd ?zzku ?zzkl ?zzkn ?zzkf ?zzkH ?_ | refine' bL_key4 ?zzk1 ?zzk2 ?zzk3 ?zzk4 ?zzk5 ?zzkK ?zzkd ?zzku ?zzkl ?zzkn ?zzkf ?zzkH ?_); (case zzkH => with_reducible assumption); (case zzkf => with_reducible assumption); (case zzkl => with_reducible assumption); (case zzkn => with_reducible assumption); (case zzk1 => k_asm); (case zzk2 => k_asm); (case zzk3 => k_asm); (case zzk4 => k_asm); (case zzk5 => k_asm); (case zzkK => first | exact rfl | assumption); (case zzkd => ktr_room); (case zzku => ktr_units); k_whole); intro t9 h9 tk9 F9 N9; (try dsimp only); (try k_fold))))
  (k_with "call ref" => ((k_here; k_dflt ((first | refine' bR_no4 ?zzk1 ?zzk2 ?zzk3 ?zzk4 ?zzk5 ?zzkK ?zzkd ?zzku ?zzkl ?zzkn ?zzkH ?_ | refine' bL_no4 ?zzk1 ?zzk2 ?zzk3 ?zzk4 ?zzk5 ?zzkK ?zzkd ?zzku ?zzkl ?zzkn ?zzkH ?_); (case zzkH => with_reducible assumption); (case zzkl => with_reducible assumption); (case zzkn => with_reducible assumption); (case zzk1 => k_asm); (case zzk2 => k_asm); (case zzk3 => k_asm); (case zzk4 => k_asm); (case zzk5 => k_asm); (case zzkK => first | exact rfl | assumption); (case zzkd => ktr_room); (case zzku => ktr_units); k_whole); intro t9 h9 tk9 F9 N9; (try dsimp only); (try k_fold))))
  (k_with "call builtin:list.insert" => ((k_here; k_dflt (refine' my_insert ?zzk1 ?zzk2 ?zzkU ?zzkr ?zzkn ?_; (case zzkU => with_reducible assumption); (case zzkn => with_reducible assumption); (case zzkr => exact bisN_le _ _); (case zzk1 => k_asm); (case zzk2 => k_asm); k_whole); intro h9 F9 N9; (try dsimp only); (try k_fold))))
  exact True.intro
theorem iR_key {prog : Program} {w : World} {loose : List Str} {mean : ExcName → Option Value} {mg mb : Str → Option Value}
    {dp un : Nat} {gd : Option (List Code)} {cn : Str} {cs : Scope} {a : Addr} {ccd : Value} {cl : List (Str × Addr)} {outer : List Env} {A₀ : Around} {base h₀ : Heap} {L : Addr} {m : Str → Option Value} {s : Shared} {Q E : Value → Shared → Prop} {news : List (Addr × Obj)}
    {l kf : Addr} {vs : List Value} {n : Nat} {xv : Value} {x : Int} {kk : Nat → Int} {g : Obj → List (Addr × Obj)}
    (B : Below A₀ base outer h₀) (F : Fr h₀ L s.heap m) (X : (hd.heap_39 w.params).In h₀) (N : News h₀ L s.heap news) (T : Top topProg loose mean mg mb h₀) (hk : cs.kind = .function)
    (hdp : dp + 3 < recursionLimit) (hun : un + 24 < cLine) (hU : UpdF l (listOf vs.toArray n) news g) (hlen : vs.length < 1000) (hfn : KeyFn w news kf) (hkey : KeysOk prog w loose mean mg mb news kf vs kk) (hkx : KeyOk prog w loose mean mg mb news kf xv x)
    (hret : ∀ h' tk', Fr h₀ L h' m → News h₀ L h' (g (listOf (insAt (bisN (fun i => decide (kk i ≤ x)) 0 vs.length) xv vs).toArray (n + 1))) → Q .none { s with heap := h', toks := tk' }) :
    wpAny (model prog w) (ktrTop dp un gd cn cs L a ccd cl outer) (call (.ref 23) [.ref l, xv] [("key", .ref kf)]) Q E s := by
  have hl9 := updF_mem hU
  walk_at "ENTER"
  k_steps
  exact hret _ _ (by assumption) (by assumption)
theorem iL_key {prog : Program} {w : World} {loose : List Str} {mean : ExcName → Option Value} {mg mb : Str → Option Value}
    {dp un : Nat} {gd : Option (List Code)} {cn : Str} {cs : Scope} {a : Addr} {ccd : Value} {cl : List (Str × Addr)} {outer : List Env} {A₀ : Around} {base h₀ : Heap} {L : Addr} {m : Str → Option Value} {s : Shared} {Q E : Value → Shared → Prop} {news : List (Addr × Obj)}
    {l kf : Addr} {vs : List Value} {n : Nat} {xv : Value} {x : Int} {kk : Nat → Int} {g : Obj → List (Addr × Obj)}
    (B : Below A₀ base outer h₀) (F : Fr h₀ L s.heap m) (X : (hd.heap_39 w.params).In h₀) (N : News h₀ L s.heap news) (T : Top topProg loose mean mg mb h₀) (hk : cs.kind = .function)
    (hdp : dp + 3 < recursionLimit) (hun : un + 24 < cLine) (hU : UpdF l (listOf vs.toArray n) news g) (hlen : vs.length < 1000) (hfn : KeyFn w news kf) (hkey : KeysOk prog w loose mean mg mb news kf vs kk) (hkx : KeyOk prog w loose mean mg mb news kf xv x)
    (hret : ∀ h' tk', Fr h₀ L h' m → News h₀ L h' (g (listOf (insAt (bisN (fun i => decide (kk i < x)) 0 vs.length) xv vs).toArray (n + 1))) → Q .none { s with heap := h', toks := tk' }) :
    wpAny (model prog w) (ktrTop dp un gd cn cs L a ccd cl outer) (call (.ref 41) [.ref l, xv] [("key", .ref kf)]) Q E s := by
  have hl9 := updF_mem hU
  walk_at "ENTER"
  k_steps
  exact hret _ _ (by assumption) (by assumption)
theorem iR_no {prog : Program} {w : World} {loose : List Str} {mean : ExcName → Option Value} {mg mb : Str → Option Value}
    {dp un : Nat} {gd : Option (List Code)} {cn : Str} {cs : Scope} {a : Addr} {ccd : Value} {cl : List (Str × Addr)} {outer : List Env} {A₀ : Around} {base h₀ : Heap} {L : Addr} {m : Str → Option Value} {s : Shared} {Q E : Value → Shared → Prop} {news : List (Addr × Obj)}
    {l : Addr} {vs : List Value} {n : Nat} {xv : Value} {lt : Nat → Bool} {g : Obj → List (Addr × Obj)}
    (B : Below A₀ base outer h₀) (F : Fr h₀ L s.heap m) (X : (hd.heap_39 w.params).In h₀) (N : News h₀ L s.heap news) (T : Top topProg loose mean mg mb h₀) (hk : cs.kind = .function)
    (hdp : dp + 3 < recursionLimit) (hun : un + 24 < cLine) (hU : UpdF l (listOf vs.toArray n) news g) (hlen : vs.length < 1000) (hlt : LtsOk prog w news true vs xv lt)
    (hret : ∀ h' tk', Fr h₀ L h' m → News h₀ L h' (g (listOf (insAt (bisN (fun i => !(lt i)) 0 vs.length) xv vs).toArray (n + 1))) → Q .none { s with heap := h', toks := tk' }) :
    wpAny (model prog w) (ktrTop dp un gd cn cs L a ccd cl outer) (call (.ref 23) [.ref l, xv] []) Q E s := by
  have hl9 := updF_mem hU
  walk_at "ENTER"
  k_steps
  exact hret _ _ (by assumption) (by assumption)
theorem iL_no {prog : Program} {w : World} {loose : List Str} {mean : ExcName → Option Value} {mg mb : Str → Option Value}
    {dp un : Nat} {gd : Option (List Code)} {cn : Str} {cs : Scope} {a : Addr} {ccd : Value} {cl : List (Str × Addr)} {outer : List Env} {A₀ : Around} {base h₀ : Heap} {L : Addr} {m : Str → Option Value} {s : Shared} {Q E : Value → Shared → Prop} {news : List (Addr × Obj)}
    {l : Addr} {vs : List Value} {n : Nat} {xv : Value} {lt : Nat → Bool} {g : Obj → List (Addr × Obj)}
    (B : Below A₀ base outer h₀) (F : Fr h₀ L s.heap m) (X : (hd.heap_39 w.params).In h₀) (N : News h₀ L s.heap news) (T : Top topProg loose mean mg mb h₀) (hk : cs.kind = .function)
    (hdp : dp + 3 < recursionLimit) (hun : un + 24 < cLine) (hU : UpdF l (listOf vs.toArray n) news g) (hlen : vs.length < 1000) (hlt : LtsOk prog w news false vs xv lt)
    (hret : ∀ h' tk', Fr h₀ L h' m → News h₀ L h' (g (listOf (insAt (bisN (fun i => lt i) 0 vs.length) xv vs).toArray (n + 1))) → Q .none { s with heap := h', toks := tk' }) :
    wpAny (model prog w) (ktrTop dp un gd cn cs L a ccd cl outer) (call (.ref 41) [.ref l, xv] []) Q E s := by
  have hl9 := updF_mem hU
  walk_at "ENTER"
  k_steps
  exact hret _ _ (by assumption) (by assumption)

end
section
theorem words_ent : True := by
  k_with_none
  (k_with "CJ" => (with_reducible first | assumption | exact cj0 ‹_› | exact cj1 ‹_› | exact cl1 ‹_› | exact cj2 ‹_› | exact cl2 ‹_› | exact cj3 ‹_› | exact cl3 ‹_› | exact cj4 ‹_› | exact cl4 ‹_› | exact cj5 ‹_› | exact cl5 ‹_› | exact cj6 ‹_› | exact cl6 ‹_› | exact cj7 ‹_› | exact cl7 ‹_› | exact cj8 ‹_› | exact cl8 ‹_› | exact cj9 ‹_› | exact cl9 ‹_› | exact cj10 ‹_› | exact cl10 ‹_› | exact cj11 ‹_› | exact cl11 ‹_› | exact cj12 ‹_› | exact cl12 ‹_›))
  (k_with "k_ne" => (((refine neN ?_); (try dsimp only); first | exact Nat.ne_of_gt (by k_extra "CJ") | exact Nat.ne_of_lt (by k_extra "CJ") | k_extra "CJ" | exact Ne.symm (by k_extra "CJ"))))
  (k_with "ktr_room" => (first | exact rm0 ‹_› | exact rm1 ‹_› rfl | exact rm2 ‹_› rfl | exact rm3 ‹_› rfl))
  (k_with "ktr_units" => (first | exact rm0 ‹_› | exact rm1 ‹_› rfl | exact rm2 ‹_› rfl | exact rm3 ‹_› rfl))
  (k_with "k_mem" => (first | exact List.Mem.head _ | (refine' List.Mem.tail _ ?_; k_mem) | (show (_ : Addr × Obj) ∈ (_ : List (Addr × Obj)); with_reducible assumption)))
  (k_with "BINDS" => (first | exact BindsTo.of_eq rfl | exact binds_K (by k_in) rfl (by k_is) rfl rfl rfl | (refine' kp_binds ?zzkx ?zzke; (case zzkx => k_in); (case zzke => exact fun _ => rfl))))
  (k_with "ENTER" => ((refine wpAny_call ?_; first | k_dflt (refine' code_def ?zzk1 ?zzk2 ?zzk3 ?zzk4 ?zzk5 ?zzkA ?zzkF ?zzkK ?zzk6 ?zzk7 ?zzk8 ?zzk9 ?zzkB ?_ ?zzc2 ?zzc3 ?zzc4 ?zzc5; (case zzkA => exact rfl); (case zzkF => exact rfl); (case zzkK => assumption); (case zzk1 => k_asm); (case zzk2 => k_asm); (case zzk3 => k_asm); (case zzk4 => k_asm); (case zzk5 => k_asm); (case zzk6 => k_is); (case zzk7 => k_is); (case zzk8 => ktr_room); (case zzk9 => walk_at "BINDS"); (case zzc5 => decide); (case zzkB => exact locs rfl); (case zzc2 => exact rfl); (case zzc3 => exact rfl); (case zzc4 => exact rfl); k_whole; (first | (k_extra "EPSENT"; refine no_implicit_lambda% (all_eps3 (i := by k_extra "NE9") ?_); generalize pj0 _ = g', pj1 _ = L', pj2 _ = h'; intro FG' F' N' B' X' T') | intro g' L' h' FG' F' N' B' X' T'); (try dsimp only); (try k_lift B'); (try k_fold)) | k_dflt (refine' code_defC ?zzk1 ?zzk2 ?zzk3 ?zzk4 ?zzk5 ?zzkA ?zzkF ?zzkK ?zzk6 ?zzk7 ?zzk8 ?zzk9 ?zzkB ?zzkD ?_ ?zzc2 ?zzc3 ?zzc4; (case zzkA => exact rfl); (case zzkF => exact rfl); (case zzkK => assumption); (case zzk1 => k_asm); (case zzk2 => k_asm); (case zzk3 => k_asm); (case zzk4 => k_asm); (case zzk5 => k_asm); (case zzk6 => k_is); (case zzk7 => k_is); (case zzk8 => ktr_room); (case zzk9 => walk_at "BINDS"); (case zzkB => exact rfl); (case zzkD => decide +kernel); (case zzc2 => exact rfl); (case zzc3 => exact rfl); (case zzc4 => exact rfl); k_whole; (first | (k_extra "EPSENT"; refine no_implicit_lambda% (all_eps5 (i := by k_extra "NE9") ?_); generalize pj0 _ = g', pj1 _ = L', pj2 _ = h', pj3 _ = tk', pj4 _ = cells'; intro FG' F' N' Y' B' X' T' l1) | intro g' L' h' tk' cells' FG' F' N' Y' B' X' T' l1); (try k_lt l1); k_cells Y'; (try simp only [List.cons_append, List.nil_append] at N'); (try dsimp only); (try k_lift B'); (try k_fold)))))
  (k_with "callWith ref" => ((k_here; k_dflt (first | (refine' callWith_K ?zzk1 ?zzk2 ?_; (case zzk1 => k_asm); (case zzk2 => k_is); k_whole) | (refine' callWith_KW ?zzk1 ?zzk2 ?zzk3 ?_; (case zzk1 => k_asm); (case zzk2 => k_is); (case zzk3 => exact rfl); k_whole)))))
  (k_with "call builtin:len" => ((k_here; (with_reducible show wpAny _ _ (call (Value.builtin "len") [Value.ref _]) _ _ _); k_dflt (refine' my_len ?zzk1 ?zzk2 ?zzk3 ?_; (case zzk1 => k_asm); (case zzk2 => k_mem); (case zzk3 => first | assumption | omega); k_whole))))
  (k_with "callWith ref" => ((k_here; k_dflt (refine' callWith_Fn1 ?zzkf ?_; (case zzkf => with_reducible assumption); k_whole))))
  (k_with "And" => (((with_reducible show IsFn _ _ ∧ _); refine ⟨KeyFn.get (by with_reducible assumption) (by k_in) (by k_asm), ?_⟩; try dsimp only [List.nil_append, List.cons_append])))
  exact True.intro
abbrev tupOf (vs : List Value) (n : Nat) : Obj := { cls := .type "tuple", data := .seq vs.toArray n }
/-- the ledger bears an entry at v: a tuple of an int and a list of ints -/
inductive EntIn (D : List (Addr × Obj)) : Value → Ent → Prop
  | mk {a b : Addr} {wt : Int} {t : Tok} {ps : List Int} {vs : List Value} {n n' : Nat} : (a, tupOf [.int wt t, .ref b] n) ∈ D → (b, listOf vs.toArray n') ∈ D → IntsAre vs ps → EntIn D (.ref a) (wt, ps)
abbrev EntsIn (D : List (Addr × Obj)) : List Value → List Ent → Prop := All2 (EntIn D)
theorem EntIn.mono {D D' : List (Addr × Obj)} (hs : ∀ p ∈ D, p ∈ D') {v : Value} {e : Ent} (h : EntIn D v e) : EntIn D' v e := by
  cases h with
  | mk h1 h2 h3 => exact .mk (hs _ h1) (hs _ h2) h3
theorem EntsIn.mono {D D' : List (Addr × Obj)} (hs : ∀ p ∈ D, p ∈ D') {vs : List Value} {es : List Ent} (h : EntsIn D vs es) : EntsIn D' vs es := All2.mono h fun _ _ => EntIn.mono hs
theorem firstFn (w : World) (news : List (Addr × Obj)) : KeyFn w news 163 := fun h₀ L h X _ => by
  refine ⟨⟨_, _, X 163 _ (by k_is), rfl⟩⟩
theorem c_first {prog : Program} {w : World} {loose : List Str} {mean : ExcName → Option Value} {mg mb : Str → Option Value} {news : List (Addr × Obj)} {v : Value} {e : Ent} (he : EntIn news v e) :
    KeyOk prog w loose mean mg mb news 163 v e.1 := by
  intro dp un gd cn cs a ccd cl outer A₀ base h₀ L m s Q E B F X N T hk hdp hun hret
  cases he with
  | mk h1 h2 h3 =>
    walk_at "ENTER"
    k_steps
    exact hret _ _ _ (by assumption) (by assumption)
theorem EntsIn.keys {prog : Program} {w : World} {loose : List Str} {mean : ExcName → Option Value} {mg mb : Str → Option Value} {news : List (Addr × Obj)} {vs : List Value} {es : List Ent} (h : EntsIn news vs es) :
    KeysOk prog w loose mean mg mb news 163 vs (fun i => (es.getD i (0, [])).1) := fun i v hv => by
  obtain ⟨e, he, hr⟩ := h.get hv
  show KeyOk prog w loose mean mg mb news 163 v (es.getD i (0, [])).1
  rw [List.getD_eq_getElem?_getD, he]
  exact c_first hr
theorem iR_ent {prog : Program} {w : World} {loose : List Str} {mean : ExcName → Option Value} {mg mb : Str → Option Value}
    {dp un : Nat} {gd : Option (List Code)} {cn : Str} {cs : Scope} {a : Addr} {ccd : Value} {cl : List (Str × Addr)} {outer : List Env} {A₀ : Around} {base h₀ : Heap} {L : Addr} {m : Str → Option Value} {s : Shared} {Q E : Value → Shared → Prop} {news : List (Addr × Obj)}
    {l x b : Addr} {vs ws : List Value} {n n1 n2 : Nat} {wt : Int} {t : Tok} {ps : List Int} {es : List Ent} {D : List (Addr × Obj)} {g : Obj → List (Addr × Obj)}
    (B : Below A₀ base outer h₀) (F : Fr h₀ L s.heap m) (X : (hd.heap_39 w.params).In h₀) (N : News h₀ L s.heap news) (T : Top topProg loose mean mg mb h₀) (hk : cs.kind = .function)
    (hdp : dp + 3 < recursionLimit) (hun : un + 24 < cLine) (hes : EntsIn D vs es) (hU : UpdF l (listOf vs.toArray n) news g) (hD : ∀ p ∈ D, p ∈ news) (h1 : (x, tupOf [.int wt t, .ref b] n1) ∈ news) (h2 : (b, listOf ws.toArray n2) ∈ news) (hi : IntsAre ws ps) (hlen : es.length < 1000)
    (hret : ∀ vs' h' tk', Fr h₀ L h' m → News h₀ L h' (g (listOf (List.toArray vs') (n + 1))) → EntsIn ((x, tupOf [.int wt t, .ref b] n1) :: (b, listOf ws.toArray n2) :: D) vs' (insE true (wt, ps) es) → Q .none { s with heap := h', toks := tk' }) :
    wpAny (model prog w) (ktrTop dp un gd cn cs L a ccd cl outer) (call (.ref 23) [.ref l, .ref x] [("key", .ref 163)]) Q E s := by
  have hl := hes.length
  refine iR_key B F X N T hk hdp hun hU (by omega) (firstFn w news) (EntsIn.keys (hes.mono hD)) (c_first (EntIn.mk h1 h2 hi)) fun h' tk' F' N' => ?_
  refine hret _ h' tk' F' N' ?_
  rw [hl]
  exact All2.ins (hes.mono fun p hp => .tail _ (.tail _ hp)) (.mk (.head _) (.tail _ (.head _)) hi) _
theorem iL_ent {prog : Program} {w : World} {loose : List Str} {mean : ExcName → Option Value} {mg mb : Str → Option Value}
    {dp un : Nat} {gd : Option (List Code)} {cn : Str} {cs : Scope} {a : Addr} {ccd : Value} {cl : List (Str × Addr)} {outer : List Env} {A₀ : Around} {base h₀ : Heap} {L : Addr} {m : Str → Option Value} {s : Shared} {Q E : Value → Shared → Prop} {news : List (Addr × Obj)}
    {l x b : Addr} {vs ws : List Value} {n n1 n2 : Nat} {wt : Int} {t : Tok} {ps : List Int} {es : List Ent} {D : List (Addr × Obj)} {g : Obj → List (Addr × Obj)}
    (B : Below A₀ base outer h₀) (F : Fr h₀ L s.heap m) (X : (hd.heap_39 w.params).In h₀) (N : News h₀ L s.heap news) (T : Top topProg loose mean mg mb h₀) (hk : cs.kind = .function)
    (hdp : dp + 3 < recursionLimit) (hun : un + 24 < cLine) (hes : EntsIn D vs es) (hU : UpdF l (listOf vs.toArray n) news g) (hD : ∀ p ∈ D, p ∈ news) (h1 : (x, tupOf [.int wt t, .ref b] n1) ∈ news) (h2 : (b, listOf ws.toArray n2) ∈ news) (hi : IntsAre ws ps) (hlen : es.length < 1000)
    (hret : ∀ vs' h' tk', Fr h₀ L h' m → News h₀ L h' (g (listOf (List.toArray vs') (n + 1))) → EntsIn ((x, tupOf [.int wt t, .ref b] n1) :: (b, listOf ws.toArray n2) :: D) vs' (insE false (wt, ps) es) → Q .none { s with heap := h', toks := tk' }) :
    wpAny (model prog w) (ktrTop dp un gd cn cs L a ccd cl outer) (call (.ref 41) [.ref l, .ref x] [("key", .ref 163)]) Q E s := by
  have hl := hes.length
  refine iL_key B F X N T hk hdp hun hU (by omega) (firstFn w news) (EntsIn.keys (hes.mono hD)) (c_first (EntIn.mk h1 h2 hi)) fun h' tk' F' N' => ?_
  refine hret _ h' tk' F' N' ?_
  rw [hl]
  exact All2.ins (hes.mono fun p hp => .tail _ (.tail _ hp)) (.mk (.head _) (.tail _ (.head _)) hi) _

end
section
theorem words_sub : True := by
  k_with_none
  (k_with "CJ" => (with_reducible first | assumption | exact cj0 ‹_› | exact cj1 ‹_› | exact cl1 ‹_› | exact cj2 ‹_› | exact cl2 ‹_› | exact cj3 ‹_› | exact cl3 ‹_› | exact cj4 ‹_› | exact cl4 ‹_› | exact cj5 ‹_› | exact cl5 ‹_› | exact cj6 ‹_› | exact cl6 ‹_› | exact cj7 ‹_› | exact cl7 ‹_› | exact cj8 ‹_› | exact cl8 ‹_› | exact cj9 ‹_› | exact cl9 ‹_› | exact cj10 ‹_› | exact cl10 ‹_› | exact cj11 ‹_› | exact cl11 ‹_› | exact cj12 ‹_› | exact cl12 ‹_›))
  (k_with "k_ne" => (((refine neN ?_); (try dsimp only); first | exact Nat.ne_of_gt (by k_extra "CJ") | exact Nat.ne_of_lt (by k_extra "CJ") | k_extra "CJ" | exact Ne.symm (by k_extra "CJ"))))
  (k_with "ktr_room" => (first | exact rm0 ‹_› | exact rm1 ‹_› rfl | exact rm2 ‹_› rfl | exact rm3 ‹_› rfl))
  (k_with "ktr_units" => (first | exact rm0 ‹_› | exact rm1 ‹_› rfl | exact rm2 ‹_› rfl | exact rm3 ‹_› rfl))
  (k_with "k_mem" => (first | exact List.Mem.head _ | (refine' List.Mem.tail _ ?_; k_mem) | (show (_ : Addr × Obj) ∈ (_ : List (Addr × Obj)); with_reducible assumption)))
  (k_with "callWith ref" => ((k_here; k_dflt (first | (refine' callWith_K ?zzk1 ?zzk2 ?_; (case zzk1 => k_asm); (case zzk2 => k_is); k_whole) | (refine' callWith_KW ?zzk1 ?zzk2 ?zzk3 ?_; (case zzk1 => k_asm); (case zzk2 => k_is); (case zzk3 => exact rfl); k_whole)))))
  (k_with "call builtin:len" => ((k_here; (with_reducible show wpAny _ _ (call (Value.builtin "len") [Value.ref _]) _ _ _); k_dflt (refine' my_len ?zzk1 ?zzk2 ?zzk3 ?_; (case zzk1 => k_asm); (case zzk2 => k_mem); (case zzk3 => first | assumption | omega); k_whole))))
  (k_with "callWith ref" => ((k_here; k_dflt (refine' callWith_Fn1 ?zzkf ?_; (case zzkf => with_reducible assumption); k_whole))))
  (k_with "And" => (((with_reducible show IsFn _ _ ∧ _); refine ⟨KeyFn.get (by with_reducible assumption) (by k_in) (by k_asm), ?_⟩; try dsimp only [List.nil_append, List.cons_append])))
  exact True.intro
/-- what is told of an end when the callee worked on a part of the ledger alone: the rest stands too -/
def WithRest (h₀ : Heap) (L : Addr) (rest : List (Addr × Obj)) (R : Result → Shared → Prop) : Result → Shared → Prop := fun r s' => News h₀ L s'.heap rest → R r s'
section
variable {prog : Program} {w : World} {A A₀ : Around} {s : Shared} {K : Frag} {L : Addr} {h₀ base : Heap} {m mg mb : Str → Option Value} {news D rest : List (Addr × Obj)} {p : Program} {loose : List Str} {mean : ExcName → Option Value}
  {env : Env} {outer : List Env} {R : Result → Shared → Prop}
theorem ground_sub (B : Below A₀ base outer h₀) (F : Fr h₀ L s.heap m) (N : News h₀ L s.heap news) (hD : ∀ q ∈ D, q ∈ news) (hr : ∀ q ∈ rest, q ∈ news ∧ q.1 ∉ D.map (·.1)) (hA : A.frames = some (env :: outer)) (hf : env.frame = some L) (hke : env.scope.kind = .function) :
    ∃ g, Fr h₀ L g m ∧ Below A base (env :: outer) g ∧ h₀.StaysIn g ∧ News h₀ L g rest ∧ (∀ b o, s.heap.get? b = some o → b ∉ D.map (·.1) → g.get? b = some o) ∧ (∀ b o, g.get? b = some o → s.heap.get? b = some o) ∧ (∀ q ∈ D, g.get? q.1 = none) ∧ g.objs.size = s.heap.objs.size ∧
      ∀ v s', LeaveK h₀ L m g (WithRest h₀ L rest R) v s' → R (.ok (.ret v)) s' := by
  have ND : News h₀ L s.heap D := fun q hq => N q (hD q hq)
  obtain ⟨FG, BG, st, lv⟩ := groundX (R := R) B F ND hA hf hke
  have NR : News h₀ L (hideAll s.heap (D.map (·.1))) rest := fun q hq => ⟨hideAll_get _ (N q (hr q hq).1).1 (hr q hq).2, (N q (hr q hq).1).2⟩
  refine ⟨_, FG, BG, st, NR, fun b o e nb => hideAll_get _ e nb, fun b o e => of_hideAll _ e, fun q hq => hideAll_none _ (List.mem_map_of_mem hq), hideAll_size _ _, fun v s' hl => lv v s' ?_⟩
  obtain ⟨L', m', news', F', N', k⟩ := hl
  exact ⟨L', m', news', F', N', fun a b => k a b fun q hq => ⟨F'.keep _ _ (NR q hq).1, (NR q hq).2⟩⟩

/-- a def entered with a part D of the ledger; the rest is kept as it stands -/
theorem code_sub {name qual : Str} {params : Arguments} {body : List Stmt} {scope : Scope} {dV kV doc pm cdv ct oc : Value} {an od : Option Addr} {osl : Array (Option Value)} {f : Addr} {args : Args} {binds : List (Str × Value)}
    (B : Below A₀ base outer h₀) (F : Fr h₀ L s.heap m) (X₀ : K.In h₀) (N : News h₀ L s.heap news) (T : Top p loose mean mg mb h₀) (hD : ∀ q ∈ D, q ∈ news) (hr : ∀ q ∈ rest, q ∈ news ∧ q.1 ∉ D.map (·.1)) (hA : A.frames = some (env :: outer)) (hf : env.frame = some L) (hke : env.scope.kind = .function)
    (ho : K.lookup f = some ⟨oc, od, .func (fnOf name qual params body scope dV kV doc pm an cdv ct), osl⟩) (hcd : codeIn K cdv qual = true) (hroom : A.depth < recursionLimit)
    (hbind : BindsTo s (fnOf name qual params body scope dV kV doc pm an cdv ct) args binds) (hloc : ∀ y ∈ binds, scope.names.lookup y.1 = some .local)
    (h : ∀ g L' h₁, Fr h₀ L g m → Fr g L' h₁ (fun y => binds.reverse.lookup y) → News g L' h₁ D → Below A base (env :: outer) g → K.In g → Top p loose mean mg mb g → News h₀ L g rest → (∀ q ∈ D, q.1 < L') →
      wpAny (model prog w) (A.deeper (envOf qual scope L' f cdv)) (execs body (envOf qual scope L' f cdv))
        (fun fl s' => LeaveK h₀ L m g (WithRest h₀ L rest R) (match fl with | .ret v => v | _ => .none) s')
        (fun e s' => wpAny (model prog w) (A.deeper (envOf qual scope L' f cdv)) (leaving (envOf qual scope L' f cdv) e) (fun _ s'' => R (.error e) s'') (fun e' s'' => R (.error e') s'') s')
        { s with heap := h₁, toks := s.toks + binds.length })
    (hco : scope.isCoroutine = false) (hgen : scope.isGenerator = false) (hk : scope.kind = .function)
    (hcell : ∀ x ∈ scope.names, x.2 ≠ .cell) : codeAny (model prog w) A (.call (.ref f) args) R s := by
  obtain ⟨g, FG, BG, st, NR, hgk, hgo, hgn, hgs, lv⟩ := ground_sub (R := R) B F N hD hr hA hf hke
  have X := X₀.keeps F.keep
  refine codeAny_call_def (fd := fnOf name qual params body scope dV kV doc pm an cdv ct) (body := body) (binds := binds) hroom (X _ _ ho) rfl (T.nolimit.keeps F.keep) (codeRec_of X hcd) rfl hbind hcell hloc (fun h₁ hns hk₁ => ?_) hco hgen hk
  exact wpAny_mono (h g s.heap.objs.size h₁ FG ⟨hns, fun b o e => hk₁ b o (hgo b o e), Nat.le_of_eq hgs⟩
    (fun q hq => ⟨hk₁ _ _ (N q (hD q hq)).1, Nat.ne_of_lt (Heap.lt_size (N q (hD q hq)).1), hgn q hq⟩) BG (X₀.keeps st) (T.keeps st) NR (fun q hq => Heap.lt_size (N q (hD q hq)).1)) (fun fl s' hl => lv _ _ hl) fun _ _ y => y

/-- the same for a def with captured names -/
theorem code_subC {name qual : Str} {params : Arguments} {body : List Stmt} {scope : Scope} {dV kV doc pm cdv ct oc : Value} {an od : Option Addr} {osl : Array (Option Value)} {f : Addr} {args : Args} {binds : List (Str × Value)}
    (B : Below A₀ base outer h₀) (F : Fr h₀ L s.heap m) (X₀ : K.In h₀) (N : News h₀ L s.heap news) (T : Top p loose mean mg mb h₀) (hD : ∀ q ∈ D, q ∈ news) (hr : ∀ q ∈ rest, q ∈ news ∧ q.1 ∉ D.map (·.1)) (hA : A.frames = some (env :: outer)) (hf : env.frame = some L) (hke : env.scope.kind = .function)
    (ho : K.lookup f = some ⟨oc, od, .func (fnOf name qual params body scope dV kV doc pm an cdv ct), osl⟩) (hcd : codeIn K cdv qual = true) (hroom : A.depth < recursionLimit)
    (hbind : BindsTo s (fnOf name qual params body scope dV kV doc pm an cdv ct) args binds) (hkind : (binds.all fun y => scope.names.lookup y.1 == some .local || scope.names.lookup y.1 == some .cell) = true)
    (hnd : ((cellsFrom 0 scope.names []).map (·.1)).Nodup)
    (h : ∀ g L' h₁ tk cells, Fr h₀ L g m → Fr g L' h₁ (bindL (envOfC qual scope L' f cdv).kindOf binds fun _ => none) → News g L' h₁ (cells ++ D) →
      CellsAre (bindC (envOfC qual scope L' f cdv).kindOf binds fun _ => none) (cellsFrom (L' + 1) scope.names []) cells → Below A base (env :: outer) g → K.In g → Top p loose mean mg mb g → News h₀ L g rest → (∀ q ∈ D, q.1 < L') → s.toks ≤ tk →
      wpAny (model prog w) (A.deeper (envOfC qual scope L' f cdv)) (execs body (envOfC qual scope L' f cdv))
        (fun fl s' => LeaveK h₀ L m g (WithRest h₀ L rest R) (match fl with | .ret v => v | _ => .none) s')
        (fun e s' => wpAny (model prog w) (A.deeper (envOfC qual scope L' f cdv)) (leaving (envOfC qual scope L' f cdv) e) (fun _ s'' => R (.error e) s'') (fun e' s'' => R (.error e') s'') s')
        { s with heap := h₁, toks := tk })
    (hco : scope.isCoroutine = false) (hgen : scope.isGenerator = false) (hk : scope.kind = .function) : codeAny (model prog w) A (.call (.ref f) args) R s := by
  obtain ⟨g, FG, BG, st, NR, hgk, hgo, hgn, hgs, lv⟩ := ground_sub (R := R) B F N hD hr hA hf hke
  have X := X₀.keeps F.keep
  refine codeAny_call_function hroom (X _ _ ho) rfl hco hgen rfl (codeRec_of X hcd) (hbind _ _ _ _ ?_)
  refine wpAny_grow (wpAny_newFunctionEnv_cells hk (kindsX hkind _) fun env' he s' x hle => ?_)
  subst he
  refine ⟨(T.nolimit.keeps F.keep).keeps x.toInCall.keep, codeAny_func ?_⟩
  obtain ⟨h₁, tk, rfl, _⟩ := x.done
  have hk₁ := x.toInCall.keep
  obtain ⟨cells, NC, Y⟩ := Cl.news (h₀ := s.heap) (Nat.le_refl _) fun n c hm => ⟨x.cell n c (lookup_of_mem_nodup (cellsFrom_names scope.names 0 (s.heap.objs.size + 1) [] [] rfl ▸ hnd) hm), x.above n c hm⟩
  refine wpAny_mono (h g s.heap.objs.size h₁ tk cells FG ⟨x.toInCall.ns, fun b o e => hk₁ b o (hgo b o e), Nat.le_of_eq hgs⟩ (fun q hq => ?_) Y BG (X₀.keeps st) (T.keeps st) NR (fun q hq => Heap.lt_size (N q (hD q hq)).1) hle) (fun fl s' hl => lv _ _ hl) fun _ _ y => y
  rcases List.mem_append.mp hq with hq | hq
  · refine ⟨(NC q hq).1, (NC q hq).2.1, ?_⟩
    cases e : g.get? q.1 with
    | none => rfl
    | some o => have := hgo _ _ e; rw [(NC q hq).2.2] at this; cases this
  · exact ⟨hk₁ _ _ (N q (hD q hq)).1, Nat.ne_of_lt (Heap.lt_size (N q (hD q hq)).1), hgn q hq⟩
/-- objects new to a heap lie apart from those that stood in it -/
theorem news_apart {g h : Heap} {L' : Addr} {tl : List (Addr × Obj)} (N : News g L' h tl) (NR : News h₀ L g rest) : ∀ q ∈ rest, ∀ p ∈ tl, q.1 ≠ p.1 := fun q hq p hp e => by
  have h1 := (NR q hq).1
  have h2 := (N p hp).2.2
  rw [e, h2] at h1
  cases h1
end
theorem news_app {h₀ h : Heap} {L : Addr} {a b : List (Addr × Obj)} (N : News h₀ L h a) (N' : News h₀ L h b) : News h₀ L h (a ++ b) := fun p hp => (List.mem_append.mp hp).elim (N p) (N' p)
theorem news_cons {h₀ h : Heap} {L : Addr} {p : Addr × Obj} {b : List (Addr × Obj)} (N : News h₀ L h [p]) (N' : News h₀ L h b) : News h₀ L h (p :: b) := fun q hq => (List.mem_cons.mp hq).elim (fun e => N q (by rw [e]; exact .head _)) (N' q)
theorem news_isList {h₀ g : Heap} {L l : Addr} {rest : List (Addr × Obj)} {us : List Value} {c : Nat} (N : News h₀ L g rest) (hm : (l, listOf us.toArray c) ∈ rest) : g.IsList l us.toArray := ⟨_, (N _ hm).1, rfl, c, rfl⟩

end
section
theorem words_forelse : True := by
  k_with_none
  (k_with "CJ" => (with_reducible first | assumption | exact cj0 ‹_› | exact cj1 ‹_› | exact cl1 ‹_› | exact cj2 ‹_› | exact cl2 ‹_› | exact cj3 ‹_› | exact cl3 ‹_› | exact cj4 ‹_› | exact cl4 ‹_› | exact cj5 ‹_› | exact cl5 ‹_› | exact cj6 ‹_› | exact cl6 ‹_› | exact cj7 ‹_› | exact cl7 ‹_› | exact cj8 ‹_› | exact cl8 ‹_› | exact cj9 ‹_› | exact cl9 ‹_› | exact cj10 ‹_› | exact cl10 ‹_› | exact cj11 ‹_› | exact cl11 ‹_› | exact cj12 ‹_› | exact cl12 ‹_›))
  (k_with "k_ne" => (((refine neN ?_); (try dsimp only); first | exact Nat.ne_of_gt (by k_extra "CJ") | exact Nat.ne_of_lt (by k_extra "CJ") | k_extra "CJ" | exact Ne.symm (by k_extra "CJ"))))
  (k_with "ktr_room" => (first | exact rm0 ‹_› | exact rm1 ‹_› rfl | exact rm2 ‹_› rfl | exact rm3 ‹_› rfl))
  (k_with "ktr_units" => (first | exact rm0 ‹_› | exact rm1 ‹_› rfl | exact rm2 ‹_› rfl | exact rm3 ‹_› rfl))
  (k_with "k_mem" => (first | exact List.Mem.head _ | (refine' List.Mem.tail _ ?_; k_mem) | (show (_ : Addr × Obj) ∈ (_ : List (Addr × Obj)); with_reducible assumption)))
  (k_with "callWith ref" => ((k_here; k_dflt (first | (refine' callWith_K ?zzk1 ?zzk2 ?_; (case zzk1 => k_asm); (case zzk2 => k_is); k_whole) | (refine' callWith_KW ?zzk1 ?zzk2 ?zzk3 ?_; (case zzk1 => k_asm); (case zzk2 => k_is); (case zzk3 => exact rfl); k_whole)))))
  (k_with "call builtin:len" => ((k_here; (with_reducible show wpAny _ _ (call (Value.builtin "len") [Value.ref _]) _ _ _); k_dflt (refine' my_len ?zzk1 ?zzk2 ?zzk3 ?_; (case zzk1 => k_asm); (case zzk2 => k_mem); (case zzk3 => first | assumption | omega); k_whole))))
  (k_with "callWith ref" => ((k_here; k_dflt (refine' callWith_Fn1 ?zzkf ?_; (case zzkf => with_reducible assumption); k_whole))))
  (k_with "And" => (((with_reducible show IsFn _ _ ∧ _); refine ⟨KeyFn.get (by with_reducible assumption) (by k_in) (by k_asm), ?_⟩; try dsimp only [List.nil_append, List.cons_append])))
  exact True.intro
/-- a ledger put together again from one entry and the others -/
theorem news_back {h₀ h₀' h h' : Heap} {L L' l : Addr} {o : Obj} {news : List (Addr × Obj)} (N : News h₀ L h news) (hm : (l, o) ∈ news) (NR : News h₀' L' h' (news.filter fun p => p.1 != l)) (ND : News h₀' L' h' [(l, o)]) : News h₀' L' h' news := fun p hp => by
  by_cases e : p.1 = l
  · have e1 := (N p hp).1
    rw [e, (N _ hm).1] at e1
    injection e1 with e1
    have : p = (l, o) := Prod.ext e e1.symm
    rw [this]
    exact ND _ (.head _)
  · exact NR p (List.mem_filter.mpr ⟨hp, by simpa using e⟩)
theorem news_rest {l : Addr} {o : Obj} {news : List (Addr × Obj)} : ∀ q ∈ news.filter (fun p => p.1 != l), q ∈ news ∧ q.1 ∉ [(l, o)].map (·.1) := fun q hq => by
  obtain ⟨h1, h2⟩ := List.mem_filter.mp hq
  refine ⟨h1, ?_⟩
  simpa using h2

end
section
theorem words_loops : True := by
  k_with_none
  (k_with "CJ" => (with_reducible first | assumption | exact cj0 ‹_› | exact cj1 ‹_› | exact cl1 ‹_› | exact cj2 ‹_› | exact cl2 ‹_› | exact cj3 ‹_› | exact cl3 ‹_› | exact cj4 ‹_› | exact cl4 ‹_› | exact cj5 ‹_› | exact cl5 ‹_› | exact cj6 ‹_› | exact cl6 ‹_› | exact cj7 ‹_› | exact cl7 ‹_› | exact cj8 ‹_› | exact cl8 ‹_› | exact cj9 ‹_› | exact cl9 ‹_› | exact cj10 ‹_› | exact cl10 ‹_› | exact cj11 ‹_› | exact cl11 ‹_› | exact cj12 ‹_› | exact cl12 ‹_›))
  (k_with "k_ne" => (((refine neN ?_); (try dsimp only); first | exact Nat.ne_of_gt (by k_extra "CJ") | exact Nat.ne_of_lt (by k_extra "CJ") | k_extra "CJ" | exact Ne.symm (by k_extra "CJ"))))
  (k_with "ktr_room" => (first | exact rm0 ‹_› | exact rm1 ‹_› rfl | exact rm2 ‹_› rfl | exact rm3 ‹_› rfl))
  (k_with "ktr_units" => (first | exact rm0 ‹_› | exact rm1 ‹_› rfl | exact rm2 ‹_› rfl | exact rm3 ‹_› rfl))
  (k_with "k_mem" => (first | exact List.Mem.head _ | (refine' List.Mem.tail _ ?_; k_mem) | (show (_ : Addr × Obj) ∈ (_ : List (Addr × Obj)); with_reducible assumption)))
  (k_with "callWith ref" => ((k_here; k_dflt (first | (refine' callWith_K ?zzk1 ?zzk2 ?_; (case zzk1 => k_asm); (case zzk2 => k_is); k_whole) | (refine' callWith_KW ?zzk1 ?zzk2 ?zzk3 ?_; (case zzk1 => k_asm); (case zzk2 => k_is); (case zzk3 => exact rfl); k_whole)))))
  (k_with "call builtin:len" => ((k_here; (with_reducible show wpAny _ _ (call (Value.builtin "len") [Value.ref _]) _ _ _); k_dflt (refine' my_len ?zzk1 ?zzk2 ?zzk3 ?_; (case zzk1 => k_asm); (case zzk2 => k_mem); (case zzk3 => first | assumption | omega); k_whole))))
  (k_with "callWith ref" => ((k_here; k_dflt (refine' callWith_Fn1 ?zzkf ?_; (case zzkf => with_reducible assumption); k_whole))))
  (k_with "And" => (((with_reducible show IsFn _ _ ∧ _); refine ⟨KeyFn.get (by with_reducible assumption) (by k_in) (by k_asm), ?_⟩; try dsimp only [List.nil_append, List.cons_append])))
  exact True.intro
/-- a loop's source with the objects that it owns, written out; what it draws is known to the token -/
structure SrcT (prog : Program) (w : World) (A : Around) (target : PySem.Expr) (h₀ : Heap) (L I : Addr) (fp : List Addr) (n : Nat) (kl : List (Addr × Obj)) (P : Nat → Nat → Nat → Value → List (Addr × Obj) → Prop) (St : Nat → List (Addr × Obj) → Prop) : Prop where
  next : ∀ i own m ns (s : Shared) (R : Value → Shared → Prop) (E : Value → Shared → Prop), i < n → St i own → Fr h₀ L s.heap m → News h₀ L s.heap (own ++ ns) → (∀ p ∈ ns, p.1 ∉ fp) → (∀ p ∈ kl, p ∈ ns) →
    (∀ v own' ex h' tk, St (i + 1) own' → P i s.toks tk v ex → Fr h₀ L h' m → News h₀ L h' (own' ++ (ex ++ ns)) → (∀ p ∈ ex, p.1 ∉ fp ∧ ∀ q ∈ ns, q.1 < p.1) → R v { s with heap := h', toks := tk }) →
    wpAny (model prog w) A (pyNext (.ref I)) (fun r s₁ => ∃ v, r = some v ∧ wpAny (model prog w) A (letOwnedTupleGo target (.ref I) v) (fun _ s₂ => R v s₂) E s₁) E s
  done : ∀ own m ns (s : Shared) (Q : Option Value → Shared → Prop) (E : Value → Shared → Prop), St n own → Fr h₀ L s.heap m → News h₀ L s.heap (own ++ ns) → (∀ p ∈ ns, p.1 ∉ fp) → (∀ p ∈ kl, p ∈ ns) →
    (∀ h' tk, Fr h₀ L h' m → News h₀ L h' ns → Q none { s with heap := h', toks := tk }) → wpAny (model prog w) A (pyNext (.ref I)) Q E s
/-- a turn's end -/
def StepT (h₀ : Heap) (L : Addr) (fp : List Addr) (own kl : List (Addr × Obj)) (Jn : Nat → (Str → Option Value) → List (Addr × Obj) → Prop) (s₁ : Shared) (Q : Flow → Shared → Prop) (f : Flow) (s₂ : Shared) : Prop :=
  s₁.toks ≤ s₂.toks → match f with
    | .ret v => Q (.ret v) s₂
    | .brk => Q .next s₂
    | _ => ∃ h' tk m' ns, s₂ = { s₁ with heap := h', toks := tk } ∧ Fr h₀ L h' m' ∧ News h₀ L h' (own ++ ns) ∧ (∀ p ∈ ns, p.1 ∉ fp) ∧ (∀ p ∈ kl, p ∈ ns) ∧ Jn tk m' ns
theorem StepT.next {h₀ : Heap} {L : Addr} {fp : List Addr} {own kl : List (Addr × Obj)} {Jn : Nat → (Str → Option Value) → List (Addr × Obj) → Prop} {s₁ : Shared} {Q : Flow → Shared → Prop} {h' : Heap} {tk : Nat} {m' : Str → Option Value} {ns : List (Addr × Obj)}
    (F : Fr h₀ L h' m') (N : News h₀ L h' (own ++ ns)) (hn : ∀ p ∈ ns, p.1 ∉ fp) (hk : ∀ p ∈ kl, p ∈ ns) (hJ : s₁.toks ≤ tk → Jn tk m' ns) : StepT h₀ L fp own kl Jn s₁ Q .next { s₁ with heap := h', toks := tk } :=
  fun hle => ⟨h', tk, m', ns, rfl, F, N, hn, hk, hJ hle⟩
theorem StepT.ret {h₀ : Heap} {L : Addr} {fp : List Addr} {own kl : List (Addr × Obj)} {Jn : Nat → (Str → Option Value) → List (Addr × Obj) → Prop} {s₁ s₂ : Shared} {Q : Flow → Shared → Prop} {v : Value}
    (h : s₁.toks ≤ s₂.toks → Q (.ret v) s₂) : StepT h₀ L fp own kl Jn s₁ Q (.ret v) s₂ := fun hle => h hle
section
variable {prog : Program} {w : World} {A : Around} {E : Value → Shared → Prop} {s : Shared} {env : Env} {h₀ : Heap} {target iter : PySem.Expr} {body orelse : List Stmt} {pos : Pos} {Q : Flow → Shared → Prop}
theorem loop_T {I : Addr} {fp : List Addr} {n : Nat} {own kl news : List (Addr × Obj)} {P : Nat → Nat → Nat → Value → List (Addr × Obj) → Prop} {St : Nat → List (Addr × Obj) → Prop} {m : Str → Option Value} (J : Nat → Nat → (Str → Option Value) → List (Addr × Obj) → Prop)
    (S : SrcT prog w A target h₀ env.locals I fp n kl P St) (st : St 0 own) (F : Fr h₀ env.locals s.heap m) (N : News h₀ env.locals s.heap (own ++ news)) (hn : ∀ p ∈ news, p.1 ∉ fp) (hk : ∀ p ∈ kl, p ∈ news) (h0 : J 0 s.toks m news)
    (step : ∀ i t0 v own' ex m₁ ns h₁ tk₁, i < n → P i t0 tk₁ v ex → St (i + 1) own' → J i t0 m₁ ns → t0 ≤ tk₁ → s.toks ≤ t0 → (∀ p ∈ ns, p.1 ∉ fp) → (∀ p ∈ kl, p ∈ ns) → (∀ p ∈ ex, p.1 ∉ fp ∧ ∀ q ∈ ns, q.1 < p.1) → Fr h₀ env.locals h₁ m₁ → News h₀ env.locals h₁ (own' ++ (ex ++ ns)) →
      wpAny (model prog w) A (assign target env v) (fun _ s₃ => wpAny (model prog w) A (execs body env) (StepT h₀ env.locals fp own' kl (J (i + 1)) { s with heap := h₁, toks := tk₁ } Q) E s₃) E { s with heap := h₁, toks := tk₁ })
    (fin : ∀ h' tk m' ns, J n tk m' ns → s.toks ≤ tk → (∀ p ∈ kl, p ∈ ns) → Fr h₀ env.locals h' m' → News h₀ env.locals h' ns → wpAny (model prog w) A (execs orelse env) Q E { s with heap := h', toks := tk })
    (Jm : ∀ i t t' m' ns, J i t m' ns → t ≤ t' → J i t' m' ns) (hE : PassesOwn (model prog w) A env E) :
    codeAny (model prog w) A (.forLoop target (.ref I) body orelse env) (fun r s' => match r with | .ok f => Q f s' | .error e => cameBackBy (model prog w) A env E e s') s := by
  refine codeAny_forLoop_any (I := fun k s' => ∃ i own h' tk m' ns, k = n - i ∧ i ≤ n ∧ s' = { s with heap := h', toks := tk } ∧ St i own ∧ Fr h₀ env.locals h' m' ∧ News h₀ env.locals h' (own ++ ns) ∧ (∀ p ∈ ns, p.1 ∉ fp) ∧ (∀ p ∈ kl, p ∈ ns) ∧ s.toks ≤ tk ∧ J i tk m' ns) ?_ n
    ⟨0, own, s.heap, s.toks, m, news, rfl, Nat.zero_le _, rfl, st, F, N, hn, hk, Nat.le_refl _, h0⟩
  rintro k s' ⟨i, own, h', tk, m', ns, rfl, hi, rfl, st, F, N, hn, hk, hle, hJ⟩
  rcases Nat.lt_or_eq_of_le hi with hlt | rfl
  · refine wpAny_passesOwn hE (wpAny_grow (wpAny_mono (S.next i own m' ns _ (fun v s₂ => tk ≤ s₂.toks → wpAny (model prog w) A (assign target env v) (fun _ s₃ => wpAny (model prog w) A (execs body env) (fun f s₃ => match f with
      | .next | .cont => ∃ m_1, m_1 < n - i ∧ ∃ i_1 own h' tk m' ns, m_1 = n - i_1 ∧ i_1 ≤ n ∧ s₃ = { s with heap := h', toks := tk } ∧ St i_1 own ∧ Fr h₀ env.locals h' m' ∧ News h₀ env.locals h' (own ++ ns) ∧ (∀ p ∈ ns, p.1 ∉ fp) ∧ (∀ p ∈ kl, p ∈ ns) ∧ s.toks ≤ tk ∧ J i_1 tk m' ns
      | .brk => Q .next s₃
      | .ret v => Q (.ret v) s₃) E s₃) E s₂) E hlt st F N hn hk ?_) (fun r s₁ hr hg => ?_) fun _ _ e => e))
    · intro v own' ex h₁ tk₁ st₁ hP F₁ N₁ hex hg
      have go := step i tk v own' ex m' ns h₁ tk₁ hlt hP st₁ hJ hg hle hn hk hex F₁ N₁
      refine wpAny_grow (wpAny_mono go (fun _ s₃ hb g1 => wpAny_grow (wpAny_mono hb (fun f s₄ hs g2 => ?_) fun _ _ e => e)) fun _ _ e => e)
      have hs := hs (Nat.le_trans g1 g2)
      have next : (∃ h' tk m'_1 ns, s₄ = { s with heap := h', toks := tk } ∧ Fr h₀ env.locals h' m'_1 ∧ News h₀ env.locals h' (own' ++ ns) ∧ (∀ p ∈ ns, p.1 ∉ fp) ∧ (∀ p ∈ kl, p ∈ ns) ∧ J (i + 1) tk m'_1 ns) →
          ∃ m_1, m_1 < n - i ∧ ∃ i_1 own h' tk m' ns, m_1 = n - i_1 ∧ i_1 ≤ n ∧ s₄ = { s with heap := h', toks := tk } ∧ St i_1 own ∧ Fr h₀ env.locals h' m' ∧ News h₀ env.locals h' (own ++ ns) ∧ (∀ p ∈ ns, p.1 ∉ fp) ∧ (∀ p ∈ kl, p ∈ ns) ∧ s.toks ≤ tk ∧ J i_1 tk m' ns := by
        rintro ⟨h₂, tk₂, m₂, ns₂, rfl, F₂, N₂, hn₂, hk₂, hJ₂⟩
        exact ⟨n - (i + 1), by omega, i + 1, own', h₂, tk₂, m₂, ns₂, rfl, hlt, rfl, st₁, F₂, N₂, hn₂, hk₂, Nat.le_trans hle (Nat.le_trans hg (Nat.le_trans g1 g2)), hJ₂⟩
      cases f with
      | ret v => exact hs
      | brk => exact hs
      | cont => exact next hs
      | next => exact next hs
    · obtain ⟨v, rfl, hv⟩ := hr
      refine wpAny_passesOwn hE (wpAny_grow (wpAny_mono hv (fun _ s₂ hs g1 => ?_) fun _ _ e => e))
      refine wpAny_passesOwn hE (wpAny_mono (hs (Nat.le_trans hg g1)) (fun _ s₃ hb => ?_) fun _ _ e => e)
      exact wpAny_passesOwn hE hb
  · refine wpAny_grow (S.done own m' ns _ _ _ st F N hn hk fun h₁ tk₁ F₁ N₁ hg => ?_)
    exact wpAny_passesOwn hE (fin h₁ tk₁ m' ns (Jm _ _ _ _ _ hJ hg) (Nat.le_trans hle hg) hk F₁ N₁)
end

end
section
theorem words_sources : True := by
  k_with_none
  (k_with "CJ" => (with_reducible first | assumption | exact cj0 ‹_› | exact cj1 ‹_› | exact cl1 ‹_› | exact cj2 ‹_› | exact cl2 ‹_› | exact cj3 ‹_› | exact cl3 ‹_› | exact cj4 ‹_› | exact cl4 ‹_› | exact cj5 ‹_› | exact cl5 ‹_› | exact cj6 ‹_› | exact cl6 ‹_› | exact cj7 ‹_› | exact cl7 ‹_› | exact cj8 ‹_› | exact cl8 ‹_› | exact cj9 ‹_› | exact cl9 ‹_› | exact cj10 ‹_› | exact cl10 ‹_› | exact cj11 ‹_› | exact cl11 ‹_› | exact cj12 ‹_› | exact cl12 ‹_›))
  (k_with "k_ne" => (((refine neN ?_); (try dsimp only); first | exact Nat.ne_of_gt (by k_extra "CJ") | exact Nat.ne_of_lt (by k_extra "CJ") | k_extra "CJ" | exact Ne.symm (by k_extra "CJ"))))
  (k_with "ktr_room" => (first | exact rm0 ‹_› | exact rm1 ‹_› rfl | exact rm2 ‹_› rfl | exact rm3 ‹_› rfl))
  (k_with "ktr_units" => (first | exact rm0 ‹_› | exact rm1 ‹_› rfl | exact rm2 ‹_› rfl | exact rm3 ‹_› rfl))
  (k_with "k_mem" => (first | exact List.Mem.head _ | (refine' List.Mem.tail _ ?_; k_mem) | (show (_ : Addr × Obj) ∈ (_ : List (Addr × Obj)); with_reducible assumption)))
  (k_with "callWith ref" => ((k_here; k_dflt (first | (refine' callWith_K ?zzk1 ?zzk2 ?_; (case zzk1 => k_asm); (case zzk2 => k_is); k_whole) | (refine' callWith_KW ?zzk1 ?zzk2 ?zzk3 ?_; (case zzk1 => k_asm); (case zzk2 => k_is); (case zzk3 => exact rfl); k_whole)))))
  (k_with "call builtin:len" => ((k_here; (with_reducible show wpAny _ _ (call (Value.builtin "len") [Value.ref _]) _ _ _); k_dflt (refine' my_len ?zzk1 ?zzk2 ?zzk3 ?_; (case zzk1 => k_asm); (case zzk2 => k_mem); (case zzk3 => first | assumption | omega); k_whole))))
  (k_with "callWith ref" => ((k_here; k_dflt (refine' callWith_Fn1 ?zzkf ?_; (case zzkf => with_reducible assumption); k_whole))))
  (k_with "And" => (((with_reducible show IsFn _ _ ∧ _); refine ⟨KeyFn.get (by with_reducible assumption) (by k_in) (by k_asm), ?_⟩; try dsimp only [List.nil_append, List.cons_append])))
  exact True.intro
theorem keepF {h₀ h h' : Heap} {L : Addr} {m : Str → Option Value} {fp : List Addr} (F : Fr h₀ L h m) (hfp : ∀ b ∈ fp, b ≠ L ∧ h₀.get? b = none) (k : ∀ b o, b ∉ fp → h.get? b = some o → h'.get? b = some o) : Fr h₀ L h' m :=
  ⟨F.ns.at' fun o e => k _ o (fun x => (hfp _ x).1 rfl) e, fun b o e => k b o (fun x => by rw [(hfp _ x).2] at e; exact nomatch e) (F.keep b o e), F.above⟩
theorem keepN {h₀ h h' : Heap} {L : Addr} {ns : List (Addr × Obj)} {fp : List Addr} (N : News h₀ L h ns) (hn : ∀ p ∈ ns, p.1 ∉ fp) (k : ∀ b o, b ∉ fp → h.get? b = some o → h'.get? b = some o) : News h₀ L h' ns :=
  fun p hp => ⟨k _ _ (hn p hp) (N p hp).1, (N p hp).2⟩
section
variable {prog : Program} {w : World} {A : Around} {h₀ : Heap} {L : Addr} {target : PySem.Expr}
def listSt (I l : Addr) (i : Nat) (own : List (Addr × Obj)) : Prop := ∃ o : Obj, own = [(I, o)] ∧ o.cls = .type "list_iterator" ∧ o.data = .fields #[.ref l, .int i 0]
theorem src_list (hh : A.handled = none) {I l : Addr} {us : List Value} {c : Nat} :
    SrcT prog w A target h₀ L I [I] us.length [(l, listOf us.toArray c)] (fun i t0 tk v ex => us[i]? = some v ∧ ex = [] ∧ tk = t0) (listSt I l) where
  next := fun i own m ns s R E hi st F N hn hk hR => by
    obtain ⟨o, rfl, hc, hd⟩ := st
    have z := N _ (List.mem_append_left _ (.head _))
    have hl : s.heap.IsList l us.toArray := ⟨_, (N _ (List.mem_append_right _ (hk _ (.head _)))).1, rfl, c, rfl⟩
    have hx : us.toArray[i]? = some us[i] := by simp [hi]
    refine wpAny_pyNext_list_item (i := i) ⟨o, z.1, hc, hd⟩ hl hx fun h' hit hs => ⟨_, rfl, letGo_listiter hit ?_⟩
    obtain ⟨o', ho', hc', hd'⟩ := hit
    have k : ∀ b x, b ∉ [I] → s.heap.get? b = some x → h'.get? b = some x := fun b x hb e => hs.extBut b x (fun q => hb (by simp [q])) e
    have hfp : ∀ b ∈ [I], b ≠ L ∧ h₀.get? b = none := fun b hb => by rw [List.mem_singleton.mp hb]; exact z.2
    refine hR _ [(I, o')] [] h' s.toks ⟨o', rfl, hc', hd'⟩ ⟨by simp [hi], rfl, rfl⟩ (keepF F hfp k) (fun p hp => ?_) (fun p hp => nomatch hp)
    rcases List.mem_cons.mp hp with rfl | hp
    · exact ⟨ho', z.2⟩
    · exact keepN (fun q hq => N q (List.mem_append_right _ hq)) hn k p hp
  done := fun own m ns s Q E st F N hn hk hQ => by
    obtain ⟨o, rfl, hc, hd⟩ := st
    have z := N _ (List.mem_append_left _ (.head _))
    have hl : s.heap.IsList l us.toArray := ⟨_, (N _ (List.mem_append_right _ (hk _ (.head _)))).1, rfl, c, rfl⟩
    have hfp : ∀ b ∈ [I], b ≠ L ∧ h₀.get? b = none := fun b hb => by rw [List.mem_singleton.mp hb]; exact z.2
    refine wpAny_pyNext_list_end hh (i := us.length) ⟨o, z.1, hc, hd⟩ hl (by simp) fun h' he => ?_
    have k : ∀ b x, b ∉ [I] → s.heap.get? b = some x → h'.get? b = some x := fun b x hb e => he b x (fun q => hb (by simp [q])) e
    exact hQ h' s.toks (keepF F hfp k) (keepN (fun q hq => N q (List.mem_append_right _ hq)) hn k)
def rangeSt (I : Addr) (n i : Nat) (own : List (Addr × Obj)) : Prop := own = [(I, { cls := .type "range_iterator", dict := none, data := .fields #[rawInt i, rawInt ((n : Int) - (i : Int)), rawInt 1], slots := #[] })]
theorem src_range (hh : A.handled = none) (hgo : ∀ it v, letOwnedTupleGo target it v = pure ()) {I : Addr} {n : Nat} :
    SrcT prog w A target h₀ L I [I] n [] (fun i t0 tk v ex => v = .int i t0 ∧ ex = [] ∧ tk = t0 + 1) (rangeSt I n) where
  next := fun i own m ns s R E hi st F N hn hk hR => by
    obtain rfl := st
    have z := N _ (List.mem_append_left _ (.head _))
    refine wpAny_pyNext_range_item z.1 (by omega) fun h' hit hs => ⟨_, rfl, ?_⟩
    rw [hgo]
    refine wpAny_pure ?_
    have k : ∀ b x, b ∉ [I] → s.heap.get? b = some x → h'.get? b = some x := fun b x hb e => hs.extBut b x (fun q => hb (by simp [q])) e
    have hfp : ∀ b ∈ [I], b ≠ L ∧ h₀.get? b = none := fun b hb => by rw [List.mem_singleton.mp hb]; exact z.2
    have e1 : ((i + 1 : Nat) : Int) = (i : Int) + 1 := by omega
    have e2 : (n : Int) - ((i : Int) + 1) = (n : Int) - (i : Int) - 1 := by omega
    refine hR _ _ [] h' _ (by unfold rangeSt; rw [e1, e2]) ⟨rfl, rfl, rfl⟩ (keepF F hfp k) (fun p hp => ?_) (fun p hp => nomatch hp)
    rcases List.mem_cons.mp hp with rfl | hp
    · exact ⟨hit, z.2⟩
    · exact keepN (fun q hq => N q (List.mem_append_right _ hq)) hn k p hp
  done := fun own m ns s Q E st F N hn hk hQ => by
    obtain rfl := st
    have z := N _ (List.mem_append_left _ (.head _))
    have hfp : ∀ b ∈ [I], b ≠ L ∧ h₀.get? b = none := fun b hb => by rw [List.mem_singleton.mp hb]; exact z.2
    refine wpAny_pyNext_range_end hh z.1 (by omega) fun h' he => ?_
    have k : ∀ b x, b ∉ [I] → s.heap.get? b = some x → h'.get? b = some x := fun b x hb e => he b x (fun q => hb (by simp [q])) e
    exact hQ h' s.toks (keepF F hfp k) (keepN (fun q hq => N q (List.mem_append_right _ hq)) hn k)
def enumObj (it : Addr) (i : Nat) (old : Value) : Obj := { cls := .type "enumerate", dict := none, data := .fields #[.none, .bool false, .ref it, rawInt i, .none, old], slots := #[] }
def enumSt (e it l : Addr) (i : Nat) (own : List (Addr × Obj)) : Prop := ∃ (old : Value) (o : Obj), own = [(e, enumObj it i old), (it, o)] ∧ o.cls = .type "list_iterator" ∧ o.data = .fields #[.ref l, .int i 0]
theorem src_enum (hh : A.handled = none) {elts : List PySem.Expr} {k : Nat} {pos : Pos} {e it l : Addr} {us : List Value} {c : Nat} (hei : e ≠ it) (hle : l ≠ e) :
    SrcT prog w A (.Tuple elts k pos) h₀ L e [e, it] us.length [(l, listOf us.toArray c)] (fun i t0 tk v ex => ∃ T x, us[i]? = some x ∧ v = .ref T ∧ tk = t0 + 1 ∧ ex = [(T, { cls := .type "tuple", data := .seq #[.int i t0, x] })]) (enumSt e it l) where
  next := fun i own m ns s R E hi st F N hn hk hR => by
    obtain ⟨old, o, rfl, hc, hd⟩ := st
    have z := N _ (List.mem_append_left _ (.head _))
    have z2 := N (it, o) (List.mem_append_left _ (.tail _ (.head _)))
    have hl : s.heap.IsList l us.toArray := ⟨_, (N _ (List.mem_append_right _ (hk _ (.head _)))).1, rfl, c, rfl⟩
    have hx : us.toArray[i]? = some us[i] := by simp [hi]
    refine wpAny_pyNext_enum_item (i := i) z.1 ⟨o, z2.1, hc, hd⟩ hl hx hei fun h' ho hit hT hsz hk' => ⟨_, rfl, ?_⟩
    refine wpAny_letOwnedTupleGo_enum ho fun h2 he2 hs2 => ?_
    obtain ⟨o', ho', hc', hd'⟩ := hit
    have hTe : s.heap.objs.size ≠ e := Nat.ne_of_gt (Heap.lt_size z.1)
    have hTi : s.heap.objs.size ≠ it := Nat.ne_of_gt (Heap.lt_size z2.1)
    have k : ∀ b x, b ∉ [e, it] → s.heap.get? b = some x → h2.get? b = some x := fun b x hb q => (hs2.2 b (fun r => hb (by simp [r]))).trans (hk' b x (fun r => hb (by simp [r])) (fun r => hb (by simp [r])) q)
    have hfp : ∀ b ∈ [e, it], b ≠ L ∧ h₀.get? b = none := fun b hb => by
      rcases List.mem_cons.mp hb with rfl | hb
      · exact z.2
      · rw [List.mem_singleton.mp hb]; exact z2.2
    have e1 : ((i + 1 : Nat) : Int) = (i : Int) + 1 := by omega
    refine hR _ [(e, enumObj it (i + 1) us[i]), (it, o')] [(s.heap.objs.size, { cls := .type "tuple", data := .seq #[.int i s.toks, us[i]] })] h2 _ ⟨us[i], o', rfl, hc', hd'⟩ ⟨s.heap.objs.size, us[i], by simp [hi], rfl, rfl, rfl⟩ (keepF F hfp k) (fun p hp => ?_) (fun p hp => ?_)
    · rcases List.mem_cons.mp hp with rfl | hp
      · exact ⟨by unfold enumObj; rw [e1]; exact he2, z.2⟩
      · rcases List.mem_cons.mp hp with rfl | hp
        · exact ⟨(hs2.2 it hei.symm).trans ho', z2.2⟩
        · rcases List.mem_cons.mp hp with rfl | hp
          · exact ⟨(hs2.2 _ hTe).trans hT, Nat.ne_of_gt F.ns.lt, F.fresh⟩
          · exact keepN (fun q hq => N q (List.mem_append_right _ hq)) hn k p hp
    · rw [List.mem_singleton.mp hp]
      refine ⟨fun q => ?_, fun q hq => Heap.lt_size (N q (List.mem_append_right _ hq)).1⟩
      rcases List.mem_cons.mp q with q | q
      · exact hTe q
      · exact hTi (List.mem_singleton.mp q)
  done := fun own m ns s Q E st F N hn hk hQ => by
    obtain ⟨old, o, rfl, hc, hd⟩ := st
    have z := N _ (List.mem_append_left _ (.head _))
    have z2 := N (it, o) (List.mem_append_left _ (.tail _ (.head _)))
    have hl : s.heap.IsList l us.toArray := ⟨_, (N _ (List.mem_append_right _ (hk _ (.head _)))).1, rfl, c, rfl⟩
    have hfp : ∀ b ∈ [e, it], b ≠ L ∧ h₀.get? b = none := fun b hb => by
      rcases List.mem_cons.mp hb with rfl | hb
      · exact z.2
      · rw [List.mem_singleton.mp hb]; exact z2.2
    refine wpAny_pyNext_enum_end hh (i := us.length) z.1 ⟨o, z2.1, hc, hd⟩ hl (by simp) fun h' he => ?_
    have k : ∀ b x, b ∉ [e, it] → s.heap.get? b = some x → h'.get? b = some x := fun b x hb q => he b x (fun r => hb (by simp [r])) q
    exact hQ h' s.toks (keepF F hfp k) (keepN (fun q hq => N q (List.mem_append_right _ hq)) hn k)
end
section
variable {prog : Program} {w : World} {A : Around} {E : Value → Shared → Prop} {s : Shared} {env : Env} {h₀ : Heap} {target iter : PySem.Expr} {body orelse : List Stmt} {pos : Pos} {Q : Flow → Shared → Prop}
/-- where the loop's source is known -/
def LoopAt (prog : Program) (w : World) (A : Around) (env : Env) (target : PySem.Expr) (body orelse : List Stmt) (Q : Flow → Shared → Prop) (E : Value → Shared → Prop) (xv : Value) (s₁ : Shared) : Prop :=
  wpAny (model prog w) A (pyIter xv) (fun it s₂ => codeAny (model prog w) A (.forLoop target it body orelse env) (fun r s' => match r with | .ok f => Q f s' | .error e => cameBackBy (model prog w) A env E e s') s₂) E s₁
theorem For_at (h : wpAny (model prog w) A (eval iter env) (fun xv s₁ => LoopAt prog w A env target body orelse Q E xv s₁) E s) (hs : ∀ x, foldedSetIterable iter env x = pure x := by intro _; rfl) :
    wpAny (model prog w) A (exec (.For target iter body orelse pos) env) Q E s := wpAny_For h hs
theorem LoopAt.list {l : Addr} {us : List Value} {c : Nat} {m : Str → Option Value} {news : List (Addr × Obj)} (J : Nat → Nat → (Str → Option Value) → List (Addr × Obj) → Prop)
    (hh : A.handled = none) (F : Fr h₀ env.locals s.heap m) (N : News h₀ env.locals s.heap news) (hl : (l, listOf us.toArray c) ∈ news) (h0 : J 0 s.toks m news)
    (step : ∀ i v I o m₁ ns h₁ tk₁, us[i]? = some v → J i tk₁ m₁ ns → s.toks ≤ tk₁ → (l, listOf us.toArray c) ∈ ns → (∀ p ∈ ns, p.1 ≠ I) → (∀ p ∈ news, p.1 < I) → Fr h₀ env.locals h₁ m₁ → News h₀ env.locals h₁ ((I, o) :: ns) →
      wpAny (model prog w) A (assign target env v) (fun _ s₃ => wpAny (model prog w) A (execs body env) (StepT h₀ env.locals [I] [(I, o)] [(l, listOf us.toArray c)] (J (i + 1)) { s with heap := h₁, toks := tk₁ } Q) E s₃) E { s with heap := h₁, toks := tk₁ })
    (fin : ∀ h' tk m' ns, J us.length tk m' ns → s.toks ≤ tk → (l, listOf us.toArray c) ∈ ns → Fr h₀ env.locals h' m' → News h₀ env.locals h' ns → wpAny (model prog w) A (execs orelse env) Q E { s with heap := h', toks := tk })
    (Jm : ∀ i t t' m' ns, J i t m' ns → t ≤ t' → J i t' m' ns) (hE : PassesOwn (model prog w) A env E := by passes_own) : LoopAt prog w A env target body orelse Q E (.ref l) s := by
  have hle : s.heap.IsList l us.toArray := ⟨_, (N _ hl).1, rfl, c, rfl⟩
  have hlt : ∀ p ∈ news, p.1 < s.heap.objs.size := fun p hp => Heap.lt_size (N p hp).1
  refine wpAny_pyIter_list hle (loop_T (s := { s with heap := s.heap.push _ }) J (src_list (c := c) hh) (own := [(s.heap.objs.size, { cls := .type "list_iterator", data := .fields #[.ref l, .int 0 0] })]) ⟨_, rfl, rfl, rfl⟩ (F.push _) (fun p hp => ?_) (fun p hp => ?_) (fun p hp => by rw [List.mem_singleton.mp hp]; exact hl) h0 ?_ ?_ Jm hE)
  · rcases List.mem_cons.mp hp with rfl | hp
    · exact ⟨Heap.get?_push_size _ rfl, Nat.ne_of_gt F.ns.lt, F.fresh⟩
    · exact ⟨Heap.get?_push_of_some _ (N p hp).1, (N p hp).2⟩
  · intro q
    exact Nat.ne_of_lt (hlt p hp) (List.mem_singleton.mp q)
  · rintro i t0 v own' ex m₁ ns h₁ tk₁ hi ⟨hv, rfl, rfl⟩ ⟨o, rfl, _, _⟩ hJ hle1 hle2 hn hk hex F₁ N₁
    exact step i v _ o m₁ ns h₁ _ hv hJ hle2 (hk _ (.head _)) (fun p hp q => hn p hp (by simp [q])) hlt F₁ N₁
  · intro h' tk m' ns hJ hle hk F' N'
    exact fin h' tk m' ns hJ hle (hk _ (.head _)) F' N'
theorem LoopAt.rangeCall {n : Nat} {t : Tok} {m : Str → Option Value} {news : List (Addr × Obj)} (J : Nat → Nat → (Str → Option Value) → List (Addr × Obj) → Prop)
    (hh : A.handled = none) (hgo : ∀ it v, letOwnedTupleGo target it v = pure ()) (hsmall : Builtin.Range.small 0 (n : Int) 1 = true) (F : Fr h₀ env.locals s.heap m) (N : News h₀ env.locals s.heap news) (h0 : J 0 s.toks m news)
    (step : ∀ i t0 I o m₁ ns h₁, i < n → J i t0 m₁ ns → s.toks ≤ t0 → (∀ p ∈ ns, p.1 ≠ I) → (∀ p ∈ news, p.1 < I) → Fr h₀ env.locals h₁ m₁ → News h₀ env.locals h₁ ((I, o) :: ns) →
      wpAny (model prog w) A (assign target env (.int i t0)) (fun _ s₃ => wpAny (model prog w) A (execs body env) (StepT h₀ env.locals [I] [(I, o)] [] (J (i + 1)) { s with heap := h₁, toks := t0 + 1 } Q) E s₃) E { s with heap := h₁, toks := t0 + 1 })
    (fin : ∀ h' tk m' ns, J n tk m' ns → s.toks ≤ tk → Fr h₀ env.locals h' m' → News h₀ env.locals h' ns → wpAny (model prog w) A (execs orelse env) Q E { s with heap := h', toks := tk })
    (Jm : ∀ i t t' m' ns, J i t m' ns → t ≤ t' → J i t' m' ns) (hE : PassesOwn (model prog w) A env E := by passes_own) :
    wpAny (model prog w) A (call (.type "range") [.int (n : Int) t]) (fun xv s₁ => LoopAt prog w A env target body orelse Q E xv s₁) E s := by
  have hlt : ∀ p ∈ news, p.1 < s.heap.objs.size := fun p hp => Heap.lt_size (N p hp).1
  refine call_range_1 ?_
  refine wpAny_pyIter_range (a := 0) (b := (n : Int)) (c := 1) (Heap.get?_push_size _ rfl) hsmall ?_
  have e0 : Builtin.Range.rangeSize 0 (n : Int) 1 = (n : Int) - 0 := by
    rw [rangeSize_one]
    split <;> omega
  rw [e0]
  have hz : (s.heap.push { cls := .type "range", data := .fields #[.int 0 s.toks, .int n t, .int 1 (s.toks + 1)] }).objs.size = s.heap.objs.size + 1 := Heap.size_push ..
  dsimp only
  rw [hz]
  refine loop_T J (src_range hh hgo) (own := [(s.heap.objs.size + 1, { cls := .type "range_iterator", data := .fields #[rawInt 0, rawInt ((n : Int) - 0), rawInt 1] })]) rfl ((F.push _).push _) (fun p hp => ?_) (fun p hp => ?_) (fun p hp => nomatch hp) (Jm _ _ _ _ _ h0 (by show s.toks ≤ s.toks + 1 + 1; omega)) ?_ ?_ Jm hE
  · rcases List.mem_cons.mp hp with rfl | hp
    · refine ⟨?_, ?_, ?_⟩
      · rw [← hz]; exact Heap.get?_push_size _ rfl
      · exact Nat.ne_of_gt (Nat.lt_succ_of_lt F.ns.lt)
      · exact Heap.get?_none_of_le (Nat.le_trans F.above (Nat.le_of_lt (Nat.lt_succ_of_lt F.ns.lt)))
    · exact ⟨Heap.get?_push_of_some _ (Heap.get?_push_of_some _ (N p hp).1), (N p hp).2⟩
  · intro q
    have := hlt p hp
    exact Nat.ne_of_lt (Nat.lt_succ_of_lt this) (List.mem_singleton.mp q)
  · rintro i t0 v own' ex m₁ ns h₁ tk₁ hi ⟨rfl, rfl, rfl⟩ st hJ hle1 hle2 hn hk hex F₁ N₁
    obtain rfl := st
    exact step i t0 _ _ m₁ ns h₁ hi hJ (Nat.le_trans (Nat.le_add_right s.toks 2) hle2) (fun p hp q => hn p hp (by simp [q])) (fun p hp => Nat.lt_succ_of_lt (hlt p hp)) F₁ N₁
  · intro h' tk m' ns hJ hle hk F' N'
    exact fin h' tk m' ns hJ (Nat.le_trans (Nat.le_add_right s.toks 2) hle) F' N'
theorem LoopAt.enumCall {elts : List PySem.Expr} {kt : Nat} {tpos : Pos} {l : Addr} {us : List Value} {c : Nat} {m : Str → Option Value} {news : List (Addr × Obj)} (J : Nat → Nat → (Str → Option Value) → List (Addr × Obj) → Prop)
    (hh : A.handled = none) (F : Fr h₀ env.locals s.heap m) (N : News h₀ env.locals s.heap news) (hl : (l, listOf us.toArray c) ∈ news) (h0 : J 0 s.toks m news)
    (step : ∀ i x t0 T e it oe oi m₁ ns h₁, us[i]? = some x → J i t0 m₁ ns → s.toks ≤ t0 → (l, listOf us.toArray c) ∈ ns → (∀ p ∈ ns, p.1 ≠ e ∧ p.1 ≠ it ∧ p.1 < T) → T ≠ e → T ≠ it → e ≠ it → Fr h₀ env.locals h₁ m₁ → News h₀ env.locals h₁ ((e, oe) :: (it, oi) :: (T, { cls := .type "tuple", data := .seq #[.int i t0, x] }) :: ns) →
      wpAny (model prog w) A (assign (.Tuple elts kt tpos) env (.ref T)) (fun _ s₃ => wpAny (model prog w) A (execs body env) (StepT h₀ env.locals [e, it] [(e, oe), (it, oi)] [(l, listOf us.toArray c)] (J (i + 1)) { s with heap := h₁, toks := t0 + 1 } Q) E s₃) E { s with heap := h₁, toks := t0 + 1 })
    (fin : ∀ h' tk m' ns, J us.length tk m' ns → s.toks ≤ tk → (l, listOf us.toArray c) ∈ ns → Fr h₀ env.locals h' m' → News h₀ env.locals h' ns → wpAny (model prog w) A (execs orelse env) Q E { s with heap := h', toks := tk })
    (Jm : ∀ i t t' m' ns, J i t m' ns → t ≤ t' → J i t' m' ns) (hE : PassesOwn (model prog w) A env E := by passes_own) :
    wpAny (model prog w) A (call (.type "enumerate") [.ref l]) (fun xv s₁ => LoopAt prog w A env (.Tuple elts kt tpos) body orelse Q E xv s₁) E s := by
  have hle : s.heap.IsList l us.toArray := ⟨_, (N _ hl).1, rfl, c, rfl⟩
  have hlt : ∀ p ∈ news, p.1 < s.heap.objs.size := fun p hp => Heap.lt_size (N p hp).1
  have hll := hlt _ hl
  refine call_enumerate_list hle fun h' hE' hI hsz hk => ?_
  refine wpAny_pyIter_enum hE' ?_
  obtain ⟨o, ho, hc, hd⟩ := hI
  refine loop_T (s := { s with heap := h' }) J (src_enum (c := c) hh (Nat.succ_ne_self _) (Nat.ne_of_lt (Nat.lt_succ_of_lt hll))) (own := [(s.heap.objs.size + 1, enumObj _ 0 .none), (s.heap.objs.size, o)]) ⟨.none, o, rfl, hc, hd⟩ (F.keeps hk) (fun p hp => ?_) (fun p hp => ?_) (fun p hp => by rw [List.mem_singleton.mp hp]; exact hl) h0 ?_ ?_ Jm hE
  · rcases List.mem_cons.mp hp with rfl | hp
    · exact ⟨hE', Nat.ne_of_gt (Nat.lt_succ_of_lt F.ns.lt), Heap.get?_none_of_le (Nat.le_trans F.above (Nat.le_of_lt (Nat.lt_succ_of_lt F.ns.lt)))⟩
    · rcases List.mem_cons.mp hp with rfl | hp
      · exact ⟨ho, Nat.ne_of_gt F.ns.lt, F.fresh⟩
      · exact ⟨hk _ _ (N p hp).1, (N p hp).2⟩
  · intro q
    have := hlt p hp
    rcases List.mem_cons.mp q with q | q
    · exact Nat.ne_of_lt (Nat.lt_succ_of_lt this) q
    · exact Nat.ne_of_lt this (List.mem_singleton.mp q)
  · rintro i t0 v own' ex m₁ ns h₁ tk₁ hi ⟨T, x, hx, rfl, rfl, rfl⟩ ⟨old, o', rfl, _, _⟩ hJ hle1 hle2 hn hkk hex F₁ N₁
    have hT := hex _ (.head _)
    refine step i x t0 T _ _ _ _ m₁ ns h₁ hx hJ hle2 (hkk _ (.head _)) (fun p hp => ⟨fun q => hn p hp (by simp [q]), fun q => hn p hp (by simp [q]), hT.2 p hp⟩) (fun q => hT.1 (by simp [q])) (fun q => hT.1 (by simp [q])) (Nat.succ_ne_self _) F₁ N₁
  · intro h' tk m' ns hJ hle hk F' N'
    exact fin h' tk m' ns hJ hle (hk _ (.head _)) F' N'
end
/-- `is` between two ints whose tokens are told apart -/
theorem is_int {M : Model} {A : Around} {E : Value → Shared → Prop} {s : Shared} {Q : Value → Shared → Prop} {p q : Int} {t u : Tok} (ht : t ≠ 0) (hu : u ≠ 0) (hc : t = u → p = q) (hs : p = q → -5 ≤ p ∧ p ≤ 256) (h : Q (.bool (decide (p = q))) s) :
    wpAny M A (compareOp .Is (.int p t) (.int q u)) Q E s := by
  show wpAny M A (do return .bool (← isSame (.int p t) (.int q u))) Q E s
  refine wpAny_bind ?_
  show wpAny M A (if (p == q && smallInt p) = true then isSame.cachedInt t u else isSame.created (p == q) t u) _ E s
  have h0 : (t == 0 || u == 0) = false := by simp [ht, hu]
  by_cases e : p = q
  · have e1 : (p == q && smallInt p) = true := by
      have := hs e
      simp [smallInt, e]
      omega
    rw [if_pos e1]
    unfold isSame.cachedInt
    rw [h0]
    refine wpAny_bind (wpAny_rule (wpAny_pure (wpAny_pure ?_)))
    rw [decide_eq_true e] at h
    exact h
  · have e1 : ¬ (p == q && smallInt p) = true := by simp [e]
    have e2 : (p == q) = false := by simp [e]
    have e3 : ¬ (t == u) = true := fun x => e (hc (eq_of_beq x))
    rw [if_neg e1, e2]
    unfold isSame.created
    rw [h0]
    simp only [Bool.false_eq_true, if_false, if_neg e3, Bool.not_false, if_true]
    refine wpAny_pure (wpAny_pure ?_)
    rw [decide_eq_false e] at h
    exact h

end
section
theorem words_frames : True := by
  k_with_none
  (k_with "CJ" => (with_reducible first | assumption | exact cj0 ‹_› | exact cj1 ‹_› | exact cl1 ‹_› | exact cj2 ‹_› | exact cl2 ‹_› | exact cj3 ‹_› | exact cl3 ‹_› | exact cj4 ‹_› | exact cl4 ‹_› | exact cj5 ‹_› | exact cl5 ‹_› | exact cj6 ‹_› | exact cl6 ‹_› | exact cj7 ‹_› | exact cl7 ‹_› | exact cj8 ‹_› | exact cl8 ‹_› | exact cj9 ‹_› | exact cl9 ‹_› | exact cj10 ‹_› | exact cl10 ‹_› | exact cj11 ‹_› | exact cl11 ‹_› | exact cj12 ‹_› | exact cl12 ‹_›))
  (k_with "k_ne" => (((refine neN ?_); (try dsimp only); first | exact Nat.ne_of_gt (by k_extra "CJ") | exact Nat.ne_of_lt (by k_extra "CJ") | k_extra "CJ" | exact Ne.symm (by k_extra "CJ"))))
  (k_with "ktr_room" => (first | exact rm0 ‹_› | exact rm1 ‹_› rfl | exact rm2 ‹_› rfl | exact rm3 ‹_› rfl))
  (k_with "ktr_units" => (first | exact rm0 ‹_› | exact rm1 ‹_› rfl | exact rm2 ‹_› rfl | exact rm3 ‹_› rfl))
  (k_with "k_mem" => (first | exact List.Mem.head _ | (refine' List.Mem.tail _ ?_; k_mem) | (show (_ : Addr × Obj) ∈ (_ : List (Addr × Obj)); with_reducible assumption)))
  (k_with "callWith ref" => ((k_here; k_dflt (first | (refine' callWith_K ?zzk1 ?zzk2 ?_; (case zzk1 => k_asm); (case zzk2 => k_is); k_whole) | (refine' callWith_KW ?zzk1 ?zzk2 ?zzk3 ?_; (case zzk1 => k_asm); (case zzk2 => k_is); (case zzk3 => exact rfl); k_whole)))))
  (k_with "call builtin:len" => ((k_here; (with_reducible show wpAny _ _ (call (Value.builtin "len") [Value.ref _]) _ _ _); k_dflt (refine' my_len ?zzk1 ?zzk2 ?zzk3 ?_; (case zzk1 => k_asm); (case zzk2 => k_mem); (case zzk3 => first | assumption | omega); k_whole))))
  (k_with "callWith ref" => ((k_here; k_dflt (refine' callWith_Fn1 ?zzkf ?_; (case zzkf => with_reducible assumption); k_whole))))
  (k_with "And" => (((with_reducible show IsFn _ _ ∧ _); refine ⟨KeyFn.get (by with_reducible assumption) (by k_in) (by k_asm), ?_⟩; try dsimp only [List.nil_append, List.cons_append])))
  exact True.intro
/-- two frames alike but for the names told -/
def Same (st : List Str) (m₀ m' : Str → Option Value) : Prop := ∀ z, st.contains z = false → m' z = m₀ z
theorem Same.refl (st : List Str) (m : Str → Option Value) : Same st m m := fun _ _ => rfl
theorem Same.eq {st : List Str} {m₀ m' : Str → Option Value} (h : Same st m₀ m') : m' = fun y => if st.contains y then m' y else m₀ y := by
  funext y
  cases e : st.contains y with
  | true => simp
  | false => simp [h y e]
theorem news_sub {h₀ h : Heap} {L : Addr} {a b : List (Addr × Obj)} (N : News h₀ L h b) (hs : ∀ p ∈ a, p ∈ b) : News h₀ L h a := fun p hp => N p (hs p hp)
theorem ints_get {us : List Value} {ns : List Int} (h : IntsAre us ns) {i : Nat} {v : Value} (e : us[i]? = some v) : ∃ a t, v = .int a t ∧ ns[i]? = some a := by
  induction h generalizing i with
  | nil => simp at e
  | cons a t _ ih =>
    cases i with
    | zero => simp at e; exact ⟨a, t, e.symm, rfl⟩
    | succ i => simpa using ih (by simpa using e)
theorem updF_self {d : Addr} {o : Obj} {l : List (Addr × Obj)} {g : Obj → List (Addr × Obj)} (U : UpdF d o l g) : g o = l := by
  induction U with
  | head h => rfl
  | tail h _ ih => simp only [ih]
/-- a fact laid aside -/
structure Sealed (p : Prop) : Prop where
  eq : p
theorem compEnd_same {h₀ : Heap} {L I C D : Addr} {m : Str → Option Value} {s₁ : Shared} {oI oC oD : Obj} {S : List (Addr × Obj) → Prop} {rest : Value → List (Addr × Obj) → Prop} {y : Value} {h' : Heap} {tk : Nat} {news' : List (Addr × Obj)}
    (F : Fr h₀ L h' m) (N : News h₀ L h' ((I, oI) :: (C, oC) :: (D, oD) :: news')) (off : LCg.Off3 I C D news') (hS : S news') (r : rest y news') : LCg.CompEnd h₀ L m s₁ I oI C oC D oD S rest y { s₁ with heap := h', toks := tk } := ⟨h', tk, news', rfl, F, N, off, hS, r⟩

end
section
theorem words_comps : True := by
  k_with_none
  (k_with "CJ" => (with_reducible first | assumption | exact cj0 ‹_› | exact cj1 ‹_› | exact cl1 ‹_› | exact cj2 ‹_› | exact cl2 ‹_› | exact cj3 ‹_› | exact cl3 ‹_› | exact cj4 ‹_› | exact cl4 ‹_› | exact cj5 ‹_› | exact cl5 ‹_› | exact cj6 ‹_› | exact cl6 ‹_› | exact cj7 ‹_› | exact cl7 ‹_› | exact cj8 ‹_› | exact cl8 ‹_› | exact cj9 ‹_› | exact cl9 ‹_› | exact cj10 ‹_› | exact cl10 ‹_› | exact cj11 ‹_› | exact cl11 ‹_› | exact cj12 ‹_› | exact cl12 ‹_›))
  (k_with "k_ne" => (((refine neN ?_); (try dsimp only); first | exact Nat.ne_of_gt (by k_extra "CJ") | exact Nat.ne_of_lt (by k_extra "CJ") | k_extra "CJ" | exact Ne.symm (by k_extra "CJ"))))
  (k_with "ktr_room" => (first | exact rm0 ‹_› | exact rm1 ‹_› rfl | exact rm2 ‹_› rfl | exact rm3 ‹_› rfl))
  (k_with "ktr_units" => (first | exact rm0 ‹_› | exact rm1 ‹_› rfl | exact rm2 ‹_› rfl | exact rm3 ‹_› rfl))
  (k_with "k_mem" => (first | exact List.Mem.head _ | (refine' List.Mem.tail _ ?_; k_mem) | (show (_ : Addr × Obj) ∈ (_ : List (Addr × Obj)); with_reducible assumption)))
  (k_with "callWith ref" => ((k_here; k_dflt (first | (refine' callWith_K ?zzk1 ?zzk2 ?_; (case zzk1 => k_asm); (case zzk2 => k_is); k_whole) | (refine' callWith_KW ?zzk1 ?zzk2 ?zzk3 ?_; (case zzk1 => k_asm); (case zzk2 => k_is); (case zzk3 => exact rfl); k_whole)))))
  (k_with "call builtin:len" => ((k_here; (with_reducible show wpAny _ _ (call (Value.builtin "len") [Value.ref _]) _ _ _); k_dflt (refine' my_len ?zzk1 ?zzk2 ?zzk3 ?_; (case zzk1 => k_asm); (case zzk2 => k_mem); (case zzk3 => first | assumption | omega); k_whole))))
  (k_with "callWith ref" => ((k_here; k_dflt (refine' callWith_Fn1 ?zzkf ?_; (case zzkf => with_reducible assumption); k_whole))))
  (k_with "And" => (((with_reducible show IsFn _ _ ∧ _); refine ⟨KeyFn.get (by with_reducible assumption) (by k_in) (by k_asm), ?_⟩; try dsimp only [List.nil_append, List.cons_append])))
  (k_with "CompEnd" => ((k_dflt (refine' compEnd_same ?zzF ?zzN ?zzoff ?zzsrc ?_; (case zzF => k_asm); (case zzN => k_asm); (case zzoff => first | assumption | ((simp only [LCg.Off3, and_true]); first | done | assumption)); (case zzsrc => lcg_src)))))
  exact True.intro
section
variable {prog : Program} {w : World} {A : Around} {h₀ : Heap} {L : Addr} {m : Str → Option Value} {env : Env} {elt : PySem.Expr} {x : Str} {scope : Scope} {cl : List (Str × Addr)} {s : Shared} {S : List (Addr × Obj) → Prop} {Fin : List Value → List (Addr × Obj) → Prop} {news : List (Addr × Obj)}
/-- a comprehension whose items give ints and leave the ledger as it was -/
theorem cr_gen {P : Nat → Value → Prop} (g : Nat → Int) (n : Nat)
    (turn : ∀ i v I oI C oC D m₂ ys h tk (E' : Value → Shared → Prop), i < n → P i v → LCg.NsObj oC m₂ → m₂ x = some v → Fr h₀ L h m → News h₀ L h ((I, oI) :: (C, oC) :: (D, LCg.lst ys) :: news) → LCg.Off3 I C D news → ((@Ne Nat I C) ∧ (@Ne Nat I D) ∧ (@Ne Nat C D)) →
      wpAny (model prog w) A (eval elt (compEnvC scope cl C env)) (LCg.CompEnd h₀ L m { s with heap := h, toks := tk } I oI C oC D (LCg.lst ys) S (fun y news' => Sealed ((∃ t, y = .int (g i) t) ∧ news' = news))) E' { s with heap := h, toks := tk })
    (fin : ∀ ys, IntsAre ys ((List.range n).map g) → Fin ys news) : LCg.CompRest prog w A h₀ L m env elt x scope cl s S P Fin n 0 [] news := by
  have key : ∀ (j i : Nat) (ys : List Value), i + j = n → IntsAre ys ((List.range i).map g) → LCg.CompRest prog w A h₀ L m env elt x scope cl s S P Fin j i ys news := by
    intro j
    induction j with
    | zero =>
      intro i ys hi hys
      have e : i = n := by omega
      subst e
      exact LCg.CompRest.zero (fin ys hys)
    | succ j ih =>
      intro i ys hi hys
      refine LCg.CompRest.succ ?_
      intro v I oI C oC D m₂ h tk E' hP hC hx F N off ne
      refine wpAny_mono (turn i v I oI C oC D m₂ _ h tk E' (by omega) hP hC hx F N off ne) (fun y s₂ hq => ?_) fun _ _ e => e
      obtain ⟨h', tk', nw, e, F', N', off', hS, ⟨⟨t, hy⟩, hn⟩⟩ := hq
      rw [hn] at N' off' hS
      refine ⟨h', tk', news, e, F', N', off', hS, ?_⟩
      refine ih (i + 1) _ (by omega) ?_
      rw [List.range_succ, List.map_append, hy]
      exact IntsAre.append hys (.cons _ _ .nil)
  exact key n 0 [] (by omega) .nil
theorem range_map_get (f : Int → Int) (ns : List Int) : (List.range ns.length).map (fun i => f (ns.getD i 0)) = ns.map f := by
  refine List.ext_getElem (by simp) fun i h1 h2 => ?_
  have h3 : i < ns.length := by simpa using h2
  simp [List.getElem?_eq_getElem h3]
/-- over the items of a list of ints -/
theorem cr_list {us : List Value} {ns : List Int} (hi : IntsAre us ns) (f : Int → Int)
    (turn : ∀ (i : Nat) (p : Int) t I oI C oC D m₂ ys h tk (E' : Value → Shared → Prop), ns[i]? = some p → LCg.NsObj oC m₂ → m₂ x = some (.int p t) → Fr h₀ L h m → News h₀ L h ((I, oI) :: (C, oC) :: (D, LCg.lst ys) :: news) → LCg.Off3 I C D news → ((@Ne Nat I C) ∧ (@Ne Nat I D) ∧ (@Ne Nat C D)) →
      wpAny (model prog w) A (eval elt (compEnvC scope cl C env)) (LCg.CompEnd h₀ L m { s with heap := h, toks := tk } I oI C oC D (LCg.lst ys) S (fun y news' => Sealed ((∃ t, y = .int (f p) t) ∧ news' = news))) E' { s with heap := h, toks := tk })
    (fin : ∀ ys, IntsAre ys (ns.map f) → Fin ys news) : LCg.CompRest prog w A h₀ L m env elt x scope cl s S (fun i v => us.toArray[i]? = some v) Fin us.toArray.size 0 [] news := by
  rw [List.size_toArray, hi.length]
  refine cr_gen (fun i => f (ns.getD i 0)) ns.length (fun i v I oI C oC D m₂ ys h tk E' hlt hP hC hx F N off ne => ?_) (fun ys hys => fin ys (by rw [range_map_get] at hys; exact hys))
  rw [List.getElem?_toArray] at hP
  obtain ⟨p, t, rfl, hp⟩ := ints_get hi hP
  have e : ns.getD i 0 = p := by rw [List.getD_eq_getElem?_getD, hp]; rfl
  rw [e]
  exact turn i p t I oI C oC D m₂ ys h tk E' hp hC hx F N off ne
/-- over a range -/
theorem cr_range (g : Nat → Int) (n : Nat)
    (turn : ∀ (i : Nat) t I oI C oC D m₂ ys h tk (E' : Value → Shared → Prop), i < n → LCg.NsObj oC m₂ → m₂ x = some (.int (0 + (i : Int)) t) → Fr h₀ L h m → News h₀ L h ((I, oI) :: (C, oC) :: (D, LCg.lst ys) :: news) → LCg.Off3 I C D news → ((@Ne Nat I C) ∧ (@Ne Nat I D) ∧ (@Ne Nat C D)) →
      wpAny (model prog w) A (eval elt (compEnvC scope cl C env)) (LCg.CompEnd h₀ L m { s with heap := h, toks := tk } I oI C oC D (LCg.lst ys) S (fun y news' => Sealed ((∃ t, y = .int (g i) t) ∧ news' = news))) E' { s with heap := h, toks := tk })
    (fin : ∀ ys, IntsAre ys ((List.range n).map g) → Fin ys news) : LCg.CompRest prog w A h₀ L m env elt x scope cl s S (fun i v => ∃ t, v = .int (0 + (i : Int)) t) Fin n 0 [] news :=
  cr_gen g n (fun i v I oI C oC D m₂ ys h tk E' hlt hP hC hx F N off ne => by obtain ⟨t, rfl⟩ := hP; exact turn i t I oI C oC D m₂ ys h tk E' hlt hC hx F N off ne) fin
end
structure KeepSrc (p : Prop) : Prop where
  out : p

end
section
theorem words_toks : True := by
  k_with_none
  (k_with "CJ" => (with_reducible first | assumption | exact cj0 ‹_› | exact cj1 ‹_› | exact cl1 ‹_› | exact cj2 ‹_› | exact cl2 ‹_› | exact cj3 ‹_› | exact cl3 ‹_› | exact cj4 ‹_› | exact cl4 ‹_› | exact cj5 ‹_› | exact cl5 ‹_› | exact cj6 ‹_› | exact cl6 ‹_› | exact cj7 ‹_› | exact cl7 ‹_› | exact cj8 ‹_› | exact cl8 ‹_› | exact cj9 ‹_› | exact cl9 ‹_› | exact cj10 ‹_› | exact cl10 ‹_› | exact cj11 ‹_› | exact cl11 ‹_› | exact cj12 ‹_› | exact cl12 ‹_›))
  (k_with "k_ne" => (((refine neN ?_); (try dsimp only); first | exact Nat.ne_of_gt (by k_extra "CJ") | exact Nat.ne_of_lt (by k_extra "CJ") | k_extra "CJ" | exact Ne.symm (by k_extra "CJ"))))
  (k_with "ktr_room" => (first | exact rm0 ‹_› | exact rm1 ‹_› rfl | exact rm2 ‹_› rfl | exact rm3 ‹_› rfl))
  (k_with "ktr_units" => (first | exact rm0 ‹_› | exact rm1 ‹_› rfl | exact rm2 ‹_› rfl | exact rm3 ‹_› rfl))
  (k_with "k_mem" => (first | exact List.Mem.head _ | (refine' List.Mem.tail _ ?_; k_mem) | (show (_ : Addr × Obj) ∈ (_ : List (Addr × Obj)); with_reducible assumption)))
  (k_with "callWith ref" => ((k_here; k_dflt (first | (refine' callWith_K ?zzk1 ?zzk2 ?_; (case zzk1 => k_asm); (case zzk2 => k_is); k_whole) | (refine' callWith_KW ?zzk1 ?zzk2 ?zzk3 ?_; (case zzk1 => k_asm); (case zzk2 => k_is); (case zzk3 => exact rfl); k_whole)))))
  (k_with "call builtin:len" => ((k_here; (with_reducible show wpAny _ _ (call (Value.builtin "len") [Value.ref _]) _ _ _); k_dflt (refine' my_len ?zzk1 ?zzk2 ?zzk3 ?_; (case zzk1 => k_asm); (case zzk2 => k_mem); (case zzk3 => first | assumption | omega); k_whole))))
  (k_with "callWith ref" => ((k_here; k_dflt (refine' callWith_Fn1 ?zzkf ?_; (case zzkf => with_reducible assumption); k_whole))))
  (k_with "And" => (((with_reducible show IsFn _ _ ∧ _); refine ⟨KeyFn.get (by with_reducible assumption) (by k_in) (by k_asm), ?_⟩; try dsimp only [List.nil_append, List.cons_append])))
  (k_with "CompEnd" => ((k_dflt (refine' compEnd_same ?zzF ?zzN ?zzoff ?zzsrc ?_; (case zzF => k_asm); (case zzN => k_asm); (case zzoff => first | assumption | ((simp only [LCg.Off3, and_true]); first | done | assumption)); (case zzsrc => lcg_src)))))
  exact True.intro
/-- a list's tokens: below the counter, made for every value but nought, told apart by their values -/
def TokOk (tk : Nat) (lv : List Value) : Prop := (∀ a t, Value.int a t ∈ lv → t < tk ∧ (a ≠ 0 → t ≠ 0)) ∧ ∀ a t b u, Value.int a t ∈ lv → Value.int b u ∈ lv → t = u → a = b
theorem TokOk.mono {tk tk' : Nat} {lv : List Value} (h : TokOk tk lv) (hle : tk ≤ tk') : TokOk tk' lv := ⟨fun a t m => ⟨Nat.lt_of_lt_of_le (h.1 a t m).1 hle, (h.1 a t m).2⟩, h.2⟩
theorem tok_zeros {tk : Nat} {us : List Value} (h : ∀ v ∈ us, ∃ t : Nat, v = Value.int 0 t ∧ t < tk) : TokOk tk us := by
  refine ⟨fun a t m => ?_, fun a t b u m1 m2 _ => ?_⟩
  · obtain ⟨t', e, hlt⟩ := h _ m
    injection e with e1 e2
    subst e1 e2
    exact ⟨hlt, fun x => absurd rfl x⟩
  · obtain ⟨_, e1, _⟩ := h _ m1
    obtain ⟨_, e2, _⟩ := h _ m2
    injection e1 with e1 _
    injection e2 with e2 _
    rw [e1, e2]
theorem mem_set_of {x v : Value} : ∀ {lv : List Value} {k : Nat}, x ∈ lv.set k v → x = v ∨ x ∈ lv
  | [], _, h => by simp at h
  | y :: r, 0, h => by
    simp at h
    rcases h with h | h
    · exact .inl h
    · exact .inr (.tail _ h)
  | y :: r, k + 1, h => by
    simp at h
    rcases h with h | h
    · exact .inr (by simp [h])
    · exact (mem_set_of h).imp id (.tail _)
theorem TokOk.set {tk t' tk' : Nat} {lv : List Value} {x : Int} (h : TokOk tk lv) (h1 : tk ≤ t') (h2 : t' ≠ 0) (h3 : t' < tk') (k : Nat) : TokOk tk' (lv.set k (.int x t')) := by
  refine ⟨fun a t m => ?_, fun a t b u m1 m2 e => ?_⟩
  · rcases mem_set_of m with e | m
    · injection e with e1 e2
      subst e2
      exact ⟨h3, fun _ => h2⟩
    · have := h.1 a t m
      exact ⟨Nat.lt_of_lt_of_le this.1 (Nat.le_trans h1 (Nat.le_of_lt h3)), this.2⟩
  · rcases mem_set_of m1 with e1 | m1 <;> rcases mem_set_of m2 with e2 | m2
    · injection e1 with e1 _; injection e2 with e2 _; rw [e1, e2]
    · injection e1 with e1 e3
      have := (h.1 b u m2).1
      subst e e3
      exact absurd this (Nat.not_lt.mpr h1)
    · injection e2 with e2 e3
      have := (h.1 a t m1).1
      subst e e3
      exact absurd this (Nat.not_lt.mpr h1)
    · exact h.2 a t b u m1 m2 e
theorem updF_addr {d : Addr} {o : Obj} {l : List (Addr × Obj)} {g : Obj → List (Addr × Obj)} (U : UpdF d o l g) (o' : Obj) : ∀ p ∈ g o', ∃ q ∈ l, q.1 = p.1 := by
  induction U with
  | head h => intro p hp; rcases List.mem_cons.mp hp with rfl | hp
              · exact ⟨_, .head _, rfl⟩
              · exact ⟨p, .tail _ hp, rfl⟩
  | tail h _ ih => intro p hp; rcases List.mem_cons.mp hp with rfl | hp
                   · exact ⟨_, .head _, rfl⟩
                   · obtain ⟨q, hq, e⟩ := ih p hp; exact ⟨q, .tail _ hq, e⟩
abbrev placeS : List Str := ["place"]
/-- the lengths' loop: one more at every place named -/
theorem bump_at {prog : Program} {w : World} {A : Around} {E : Value → Shared → Prop} {s : Shared} {env : Env} {h₀ : Heap} {target : PySem.Expr} {body orelse : List Stmt} {Q : Flow → Shared → Prop} {r ll : Addr} {us lv : List Value} {qs ls : List Int} {c n2 : Nat} {m : Str → Option Value} {news : List (Addr × Obj)} {g : Obj → List (Addr × Obj)}
    (hh : A.handled = none) (F : Fr h₀ env.locals s.heap m) (N : News h₀ env.locals s.heap news) (hr : (r, listOf us.toArray c) ∈ news) (U : UpdF ll (listOf lv.toArray n2) news g) (hi : IntsAre us qs) (hv : IntsAre lv ls) (h5 : ls.length = 5) (ht : TokOk s.toks lv) (hq : ∀ p ∈ qs, 0 ≤ p ∧ p < 5)
    (step : ∀ (k : Int) (t : Tok) (I : Addr) (o : Obj) (z : Str → Option Value) (h₁ : Heap) (tk₁ n₁ : Nat) (lv₁ : List Value) (ls₁ : List Int), 0 ≤ k → k < 5 → IntsAre lv₁ ls₁ → ls₁.length = 5 → TokOk tk₁ lv₁ → (∀ p ∈ news, p.1 < I) → (∀ o', ∀ p ∈ g o', p.1 ∉ [I]) → Fr h₀ env.locals h₁ (fun y => if placeS.contains y then z y else m y) → News h₀ env.locals h₁ ((I, o) :: g (listOf lv₁.toArray n₁)) →
      wpAny (model prog w) A (assign target env (.int k t)) (fun _ s₃ => wpAny (model prog w) A (execs body env) (StepT h₀ env.locals [I] [(I, o)] [(r, listOf us.toArray c)] (fun tk m' nl => Same placeS m m' ∧ ∃ lv' n', nl = g (listOf lv'.toArray n') ∧ IntsAre lv' (ls₁.set k.toNat (ls₁.getD k.toNat 0 + 1)) ∧ TokOk tk lv') { s with heap := h₁, toks := tk₁ } Q) E s₃) E { s with heap := h₁, toks := tk₁ })
    (fin : ∀ (h' : Heap) (tk n' : Nat) (z : Str → Option Value) (lv' : List Value), IntsAre lv' (bumpAll ls qs) → TokOk tk lv' → Fr h₀ env.locals h' (fun y => if placeS.contains y then z y else m y) → News h₀ env.locals h' (g (listOf lv'.toArray n')) → wpAny (model prog w) A (execs orelse env) Q E { s with heap := h', toks := tk })
    (hE : PassesOwn (model prog w) A env E := by passes_own) : LoopAt prog w A env target body orelse Q E (.ref r) s := by
  refine LoopAt.list (fun i tk m' nl => Same placeS m m' ∧ ∃ lv' n', nl = g (listOf lv'.toArray n') ∧ IntsAre lv' (bumpAll ls (qs.take i)) ∧ TokOk tk lv') hh F N hr ⟨Same.refl _ _, lv, n2, (updF_self U).symm, hv, ht⟩ ?_ ?_ ?_ hE
  · rintro i v I o m₁ nl h₁ tk₁ hx ⟨hS, lv₁, n₁, rfl, hv₁, ht₁⟩ _ _ _ hlt F₁ N₁
    obtain ⟨k, t, rfl, hk⟩ := ints_get hi hx
    have hkm := hq k (List.mem_of_getElem? hk)
    rw [hS.eq] at F₁
    have e5 : (bumpAll ls (qs.take i)).length = 5 := by rw [bumpAll_length]; exact h5
    refine wpAny_mono (step k t I o m₁ h₁ tk₁ n₁ lv₁ _ hkm.1 hkm.2 hv₁ e5 ht₁ hlt (fun o' p hp q => by obtain ⟨q', hq', e'⟩ := updF_addr U o' p hp; have := hlt q' hq'; rw [e', List.mem_singleton.mp q] at this; exact Nat.lt_irrefl _ this) F₁ N₁) (fun _ s₃ hb => wpAny_mono hb (fun f s₄ hs hle => ?_) fun _ _ e => e) fun _ _ e => e
    have hs := hs hle
    have e : (bumpAll ls (qs.take i)).set k.toNat ((bumpAll ls (qs.take i)).getD k.toNat 0 + 1) = bumpAll ls (qs.take (i + 1)) := by
      rw [List.take_add_one, hk, Option.toList_some, bumpAll_snoc]
    rw [e] at hs
    cases f with
    | ret v => exact hs
    | brk => exact hs
    | cont => exact hs
    | next => exact hs
  · rintro h' tk m' nl ⟨hS, lv', n', rfl, hv', ht'⟩ _ _ F' N'
    rw [hS.eq] at F'
    rw [hi.length, List.take_length] at hv'
    exact fin h' tk n' m' lv' hv' ht' F' N'
  · rintro i t t' m' nl ⟨a, lv', n', b, d, e⟩ hle
    exact ⟨a, lv', n', b, d, e.mono hle⟩

end
section
theorem words_whiles : True := by
  k_with_none
  (k_with "CJ" => (with_reducible first | assumption | exact cj0 ‹_› | exact cj1 ‹_› | exact cl1 ‹_› | exact cj2 ‹_› | exact cl2 ‹_› | exact cj3 ‹_› | exact cl3 ‹_› | exact cj4 ‹_› | exact cl4 ‹_› | exact cj5 ‹_› | exact cl5 ‹_› | exact cj6 ‹_› | exact cl6 ‹_› | exact cj7 ‹_› | exact cl7 ‹_› | exact cj8 ‹_› | exact cl8 ‹_› | exact cj9 ‹_› | exact cl9 ‹_› | exact cj10 ‹_› | exact cl10 ‹_› | exact cj11 ‹_› | exact cl11 ‹_› | exact cj12 ‹_› | exact cl12 ‹_›))
  (k_with "k_ne" => (((refine neN ?_); (try dsimp only); first | exact Nat.ne_of_gt (by k_extra "CJ") | exact Nat.ne_of_lt (by k_extra "CJ") | k_extra "CJ" | exact Ne.symm (by k_extra "CJ"))))
  (k_with "ktr_room" => (first | exact rm0 ‹_› | exact rm1 ‹_› rfl | exact rm2 ‹_› rfl | exact rm3 ‹_› rfl))
  (k_with "ktr_units" => (first | exact rm0 ‹_› | exact rm1 ‹_› rfl | exact rm2 ‹_› rfl | exact rm3 ‹_› rfl))
  (k_with "k_mem" => (first | exact List.Mem.head _ | (refine' List.Mem.tail _ ?_; k_mem) | (show (_ : Addr × Obj) ∈ (_ : List (Addr × Obj)); with_reducible assumption)))
  (k_with "callWith ref" => ((k_here; k_dflt (first | (refine' callWith_K ?zzk1 ?zzk2 ?_; (case zzk1 => k_asm); (case zzk2 => k_is); k_whole) | (refine' callWith_KW ?zzk1 ?zzk2 ?zzk3 ?_; (case zzk1 => k_asm); (case zzk2 => k_is); (case zzk3 => exact rfl); k_whole)))))
  (k_with "call builtin:len" => ((k_here; (with_reducible show wpAny _ _ (call (Value.builtin "len") [Value.ref _]) _ _ _); k_dflt (refine' my_len ?zzk1 ?zzk2 ?zzk3 ?_; (case zzk1 => k_asm); (case zzk2 => k_mem); (case zzk3 => first | assumption | omega); k_whole))))
  (k_with "callWith ref" => ((k_here; k_dflt (refine' callWith_Fn1 ?zzkf ?_; (case zzkf => with_reducible assumption); k_whole))))
  (k_with "And" => (((with_reducible show IsFn _ _ ∧ _); refine ⟨KeyFn.get (by with_reducible assumption) (by k_in) (by k_asm), ?_⟩; try dsimp only [List.nil_append, List.cons_append])))
  exact True.intro
section
variable {prog : Program} {w : World} {A : Around} {E : Value → Shared → Prop} {Q : Flow → Shared → Prop} {s : Shared} {env : Env} {h₀ : Heap} {L : Addr}
/-- the end of a while's turn -/
def WStep (h₀ : Heap) (L : Addr) (s : Shared) (J : Nat → Nat → (Str → Option Value) → List (Addr × Obj) → Prop) (n : Nat) (Q : Flow → Shared → Prop) (f : Flow) (s₂ : Shared) : Prop :=
  match f with
  | .ret v => Q (.ret v) s₂
  | .brk => Q .next s₂
  | _ => ∃ h' tk m' nx n', s₂ = { s with heap := h', toks := tk } ∧ Fr h₀ L h' m' ∧ News h₀ L h' nx ∧ n' < n ∧ J n' tk m' nx
/-- a while whose word may speak of the counter -/
theorem while_T {test : PySem.Expr} {body : List Stmt} {pos : Pos} {m : Str → Option Value} {news : List (Addr × Obj)} {n : Nat} (J : Nat → Nat → (Str → Option Value) → List (Addr × Obj) → Prop)
    (F : Fr h₀ L s.heap m) (N : News h₀ L s.heap news) (h0 : J n s.toks m news)
    (turn : ∀ n tk m₁ nx h, J n tk m₁ nx → s.toks ≤ tk → Fr h₀ L h m₁ → News h₀ L h nx → wpAny (model prog w) A (isTrue test env (eval test env)) (fun b s₂ =>
      if b = true then wpAny (model prog w) A (execs body env) (WStep h₀ L s J n Q) E s₂ else Q .next s₂) E { s with heap := h, toks := tk })
    (hE : PassesOwn (model prog w) A env E := by passes_own) : wpAny (model prog w) A (exec (.While test body [] pos) env) Q E s := by
  refine wpAny_While (codeAny_whileLoop (I := fun n s' => ∃ h tk m₁ nx, s' = { s with heap := h, toks := tk } ∧ Fr h₀ L h m₁ ∧ News h₀ L h nx ∧ s.toks ≤ tk ∧ J n tk m₁ nx) ?_ n ⟨s.heap, s.toks, m, news, rfl, F, N, Nat.le_refl _, h0⟩)
  rintro n s' ⟨h, tk, m₁, nx, rfl, F₁, N₁, hle, hJ⟩
  have go := turn n tk m₁ nx h hJ hle F₁ N₁
  refine wpAny_passesOwn hE (wpAny_grow (wpAny_mono go (fun b s₂ hb g1 => ?_) fun _ _ e => e))
  cases b with
  | false => exact wpAny_execs_nil (by simpa using hb)
  | true =>
    simp only [if_true] at hb ⊢
    refine wpAny_passesOwn hE (wpAny_grow (wpAny_mono hb (fun f s₃ hf g2 => ?_) fun _ _ e => e))
    have next : (∃ h' tk m' nx n', s₃ = { s with heap := h', toks := tk } ∧ Fr h₀ L h' m' ∧ News h₀ L h' nx ∧ n' < n ∧ J n' tk m' nx) → ∃ m, m < n ∧ ∃ h tk m₁ nx, s₃ = { s with heap := h, toks := tk } ∧ Fr h₀ L h m₁ ∧ News h₀ L h nx ∧ s.toks ≤ tk ∧ J m tk m₁ nx := by
      rintro ⟨h', tk', m', nx', n', rfl, F', N', hn, hJ'⟩
      exact ⟨n', hn, h', tk', m', nx', rfl, F', N', Nat.le_trans hle (Nat.le_trans g1 g2), hJ'⟩
    cases f with
    | ret v => exact hf
    | brk => exact hf
    | cont => exact next hf
    | next => exact next hf
end

end
section
theorem words_lam : True := by
  k_with_none
  (k_with "CJ" => (with_reducible first | assumption | exact cj0 ‹_› | exact cj1 ‹_› | exact cl1 ‹_› | exact cj2 ‹_› | exact cl2 ‹_› | exact cj3 ‹_› | exact cl3 ‹_› | exact cj4 ‹_› | exact cl4 ‹_› | exact cj5 ‹_› | exact cl5 ‹_› | exact cj6 ‹_› | exact cl6 ‹_› | exact cj7 ‹_› | exact cl7 ‹_› | exact cj8 ‹_› | exact cl8 ‹_› | exact cj9 ‹_› | exact cl9 ‹_› | exact cj10 ‹_› | exact cl10 ‹_› | exact cj11 ‹_› | exact cl11 ‹_› | exact cj12 ‹_› | exact cl12 ‹_›))
  (k_with "k_ne" => (((refine neN ?_); (try dsimp only); first | exact Nat.ne_of_gt (by k_extra "CJ") | exact Nat.ne_of_lt (by k_extra "CJ") | k_extra "CJ" | exact Ne.symm (by k_extra "CJ"))))
  (k_with "ktr_room" => (first | exact rm0 ‹_› | exact rm1 ‹_› rfl | exact rm2 ‹_› rfl | exact rm3 ‹_› rfl))
  (k_with "ktr_units" => (first | exact rm0 ‹_› | exact rm1 ‹_› rfl | exact rm2 ‹_› rfl | exact rm3 ‹_› rfl))
  (k_with "k_mem" => (first | exact List.Mem.head _ | (refine' List.Mem.tail _ ?_; k_mem) | (show (_ : Addr × Obj) ∈ (_ : List (Addr × Obj)); with_reducible assumption)))
  (k_with "callWith ref" => ((k_here; k_dflt (first | (refine' callWith_K ?zzk1 ?zzk2 ?_; (case zzk1 => k_asm); (case zzk2 => k_is); k_whole) | (refine' callWith_KW ?zzk1 ?zzk2 ?zzk3 ?_; (case zzk1 => k_asm); (case zzk2 => k_is); (case zzk3 => exact rfl); k_whole)))))
  (k_with "call builtin:len" => ((k_here; (with_reducible show wpAny _ _ (call (Value.builtin "len") [Value.ref _]) _ _ _); k_dflt (refine' my_len ?zzk1 ?zzk2 ?zzk3 ?_; (case zzk1 => k_asm); (case zzk2 => k_mem); (case zzk3 => first | assumption | omega); k_whole))))
  (k_with "callWith ref" => ((k_here; k_dflt (refine' callWith_Fn1 ?zzkf ?_; (case zzkf => with_reducible assumption); k_whole))))
  (k_with "And" => (((with_reducible show IsFn _ _ ∧ _); refine ⟨KeyFn.get (by with_reducible assumption) (by k_in) (by k_asm), ?_⟩; try dsimp only [List.nil_append, List.cons_append])))
  (k_with "CompEnd" => ((k_dflt (refine' compEnd_same ?zzF ?zzN ?zzoff ?zzsrc ?_; (case zzF => k_asm); (case zzN => k_asm); (case zzoff => first | assumption | ((simp only [LCg.Off3, and_true]); first | done | assumption)); (case zzsrc => lcg_src)))))
  exact True.intro
/-- the table of a def's inner codes: every code that it names stands in D -/
def TabIn (qual : Str) (ps : Array Value) (D : List (Addr × Obj)) : Prop :=
  TriplesOk ps.toList ∧ ∀ pos v, codeAmong pos ps.toList = some v → ∃ c' oc vs t, v = .ref c' ∧ (c', oc) ∈ D ∧ oc.data = .fields vs ∧ vs[1]? = some (.str qual t)
theorem TabIn.nil (qual : Str) (D : List (Addr × Obj)) : TabIn qual #[] D := ⟨True.intro, fun _ _ h => nomatch h⟩
theorem TabIn.mono {qual : Str} {ps : Array Value} {D D' : List (Addr × Obj)} (h : TabIn qual ps D) (hs : ∀ p ∈ D, p ∈ D') : TabIn qual ps D' :=
  ⟨h.1, fun pos v e => by obtain ⟨c', oc, vs, t, a, b, r⟩ := h.2 pos v e; exact ⟨c', oc, vs, t, a, hs _ b, r⟩⟩
theorem codeAmong_app {pos : Pos} {a b c v : Value} (l : List Value) (h : TriplesOk l) (hv : codeAmong pos (l ++ [a, b, c]) = some v) : codeAmong pos l = some v ∨ v = c := by
  fun_induction TriplesOk l with
  | case1 =>
    right
    simp only [List.nil_append] at hv
    unfold codeAmong at hv
    split at hv
    · rename_i h1
      injection h1 with _ h1
      injection h1 with _ h1
      injection h1 with h1 h2
      subst h1 h2
      split at hv
      · injection hv with hv; exact hv.symm
      · simp [codeAmong] at hv
    · exact nomatch hv
  | case2 i t j u x r ih =>
    simp only [List.cons_append, codeAmong] at hv ⊢
    split at hv
    · rename_i h1; rw [if_pos h1]; exact .inl hv
    · rename_i h1; rw [if_neg h1]; exact ih h hv
  | case3 => exact h.elim
section
variable {M : Model} {A : Around} {E : Value → Shared → Prop} {s : Shared} {h₀ : Heap} {L a c P : Addr} {m mg mb : Str → Option Value} {cn : Str} {cs : Scope} {ccd : Value} {cl : List (Str × Addr)} {news : List (Addr × Obj)} {g : Obj → List (Addr × Obj)}
  {p : Program} {loose : List Str} {mean : ExcName → Option Value} {name qual : Str} {params : Arguments} {body : PySem.Expr} {scope : Scope} {ps : Array Value} {pos : Pos} {firstLine : Nat} {clos : List (Str × Addr)}
theorem lam_apart {c' x : Addr} {oc o : Obj} {D news : List (Addr × Obj)} (hc : (c', oc) ∈ D ∨ ∀ q ∈ news, q.1 < c') (hx : ∀ p ∈ D, p.1 ≠ x) (hm : (x, o) ∈ news) : c' ≠ x :=
  hc.elim (fun h => hx _ h) fun h => Nat.ne_of_gt (h _ hm)
/-- a lambda made, whether for the first time or not -/
theorem lam_any {D : List (Addr × Obj)} {Q : Value → Shared → Prop} (F : Fr h₀ L s.heap m) (N : News h₀ L s.heap news) (T : Top p loose mean mg mb h₀) (C : CodeHd h₀ c P) (hcd : ccd = .ref c) (U : UpdF P (tabObj ps) news g) (TB : TabIn qual ps D) (hD : ∀ p ∈ D, p ∈ news)
    (hcl : closureFor scope (envX cn cs L a ccd cl) = pure clos)
    (h : ∀ f c' oc vs t ctv ps' h' tk, Fr h₀ L h' m →
      News h₀ L h' ((f, kla_obj name qual params body scope clos ((mg "__name__").getD .none) c' ctv) :: (c', oc) :: g (tabObj ps')) →
      oc.data = .fields vs → vs[1]? = some (.str qual t) → (∀ q ∈ news, q.1 < f) → c' < f → ((c', oc) ∈ D ∨ ∀ q ∈ news, q.1 < c') → TabIn qual ps' ((c', oc) :: D) → Q (.ref f) { s with heap := h', toks := tk }) :
    wpAny M A (makeFunction name qual params (.expr body) scope (envX cn cs L a ccd cl) [] [] [] pos firstLine) Q E s := by
  cases e : codeAmong pos ps.toList with
  | none =>
    refine kla_nest F N T C hcd U TB.1 e hcl fun f c' oc vs t ctv h' tk F' N' d1 d2 l1 l2 => ?_
    refine h f c' oc vs t ctv _ h' tk F' N' d1 d2 (fun q hq => Nat.lt_trans (l1 q hq) l2) l2 (.inr l1) ⟨?_, fun pos' v hv => ?_⟩
    · rw [Array.toList_append]
      exact TriplesOk_snoc _ _ _ _ TB.1
    · rw [Array.toList_append] at hv
      rcases codeAmong_app _ TB.1 hv with hv | rfl
      · obtain ⟨c2, o2, vs2, t2, x1, x2, x3⟩ := TB.2 pos' v hv
        exact ⟨c2, o2, vs2, t2, x1, .tail _ x2, x3⟩
      · exact ⟨c', oc, vs, t, rfl, .head _, d1, d2⟩
  | some v =>
    obtain ⟨c', oc, vs, t, rfl, x2, x3, x4⟩ := TB.2 pos v e
    refine kla_hit F N T C hcd (updF_mem U) TB.1 e hcl fun f ctv h' tk F' N' l1 => ?_
    refine h f c' oc vs t ctv ps h' tk F' (fun q hq => ?_) x3 x4 l1 (l1 _ (hD _ x2)) (.inl x2) (TB.mono fun q hq => .tail _ hq)
    rw [updF_self U] at hq
    rcases List.mem_cons.mp hq with rfl | hq
    · exact N' _ (.head _)
    · rcases List.mem_cons.mp hq with rfl | hq
      · exact N' _ (.tail _ (hD _ x2))
      · exact N' _ (.tail _ hq)
end

end
section
theorem words_prims : True := by
  k_with_none
  (k_with "CJ" => (with_reducible first | assumption | exact cj0 ‹_› | exact cj1 ‹_› | exact cl1 ‹_› | exact cj2 ‹_› | exact cl2 ‹_› | exact cj3 ‹_› | exact cl3 ‹_› | exact cj4 ‹_› | exact cl4 ‹_› | exact cj5 ‹_› | exact cl5 ‹_› | exact cj6 ‹_› | exact cl6 ‹_› | exact cj7 ‹_› | exact cl7 ‹_› | exact cj8 ‹_› | exact cl8 ‹_› | exact cj9 ‹_› | exact cl9 ‹_› | exact cj10 ‹_› | exact cl10 ‹_› | exact cj11 ‹_› | exact cl11 ‹_› | exact cj12 ‹_› | exact cl12 ‹_›))
  (k_with "k_ne" => (((refine neN ?_); (try dsimp only); first | exact Nat.ne_of_gt (by k_extra "CJ") | exact Nat.ne_of_lt (by k_extra "CJ") | k_extra "CJ" | exact Ne.symm (by k_extra "CJ"))))
  (k_with "ktr_room" => (first | exact rm0 ‹_› | exact rm1 ‹_› rfl | exact rm2 ‹_› rfl | exact rm3 ‹_› rfl))
  (k_with "ktr_units" => (first | exact rm0 ‹_› | exact rm1 ‹_› rfl | exact rm2 ‹_› rfl | exact rm3 ‹_› rfl))
  (k_with "k_mem" => (first | exact List.Mem.head _ | (refine' List.Mem.tail _ ?_; k_mem) | (show (_ : Addr × Obj) ∈ (_ : List (Addr × Obj)); with_reducible assumption)))
  (k_with "BINDS" => (first | exact BindsTo.of_eq rfl | exact binds_K (by k_in) rfl (by k_is) rfl rfl rfl | (refine' kp_binds ?zzkx ?zzke; (case zzkx => k_in); (case zzke => exact fun _ => rfl))))
  (k_with "ENTER" => ((refine wpAny_call ?_; first | k_dflt (refine' code_def ?zzk1 ?zzk2 ?zzk3 ?zzk4 ?zzk5 ?zzkA ?zzkF ?zzkK ?zzk6 ?zzk7 ?zzk8 ?zzk9 ?zzkB ?_ ?zzc2 ?zzc3 ?zzc4 ?zzc5; (case zzkA => exact rfl); (case zzkF => exact rfl); (case zzkK => assumption); (case zzk1 => k_asm); (case zzk2 => k_asm); (case zzk3 => k_asm); (case zzk4 => k_asm); (case zzk5 => k_asm); (case zzk6 => k_is); (case zzk7 => k_is); (case zzk8 => ktr_room); (case zzk9 => walk_at "BINDS"); (case zzc5 => decide); (case zzkB => exact locs rfl); (case zzc2 => exact rfl); (case zzc3 => exact rfl); (case zzc4 => exact rfl); k_whole; (first | (k_extra "EPSENT"; refine no_implicit_lambda% (all_eps3 (i := by k_extra "NE9") ?_); generalize pj0 _ = g', pj1 _ = L', pj2 _ = h'; intro FG' F' N' B' X' T') | intro g' L' h' FG' F' N' B' X' T'); (try dsimp only); (try k_lift B'); (try k_fold)) | k_dflt (refine' code_defC ?zzk1 ?zzk2 ?zzk3 ?zzk4 ?zzk5 ?zzkA ?zzkF ?zzkK ?zzk6 ?zzk7 ?zzk8 ?zzk9 ?zzkB ?zzkD ?_ ?zzc2 ?zzc3 ?zzc4; (case zzkA => exact rfl); (case zzkF => exact rfl); (case zzkK => assumption); (case zzk1 => k_asm); (case zzk2 => k_asm); (case zzk3 => k_asm); (case zzk4 => k_asm); (case zzk5 => k_asm); (case zzk6 => k_is); (case zzk7 => k_is); (case zzk8 => ktr_room); (case zzk9 => walk_at "BINDS"); (case zzkB => exact rfl); (case zzkD => decide +kernel); (case zzc2 => exact rfl); (case zzc3 => exact rfl); (case zzc4 => exact rfl); k_whole; (first | (k_extra "EPSENT"; refine no_implicit_lambda% (all_eps5 (i := by k_extra "NE9") ?_); generalize pj0 _ = g', pj1 _ = L', pj2 _ = h', pj3 _ = tk', pj4 _ = cells'; intro FG' F' N' Y' B' X' T' l1) | intro g' L' h' tk' cells' FG' F' N' Y' B' X' T' l1); (try k_lt l1); k_cells Y'; (try simp only [List.cons_append, List.nil_append] at N'); (try dsimp only); (try k_lift B'); (try k_fold)))))
  (k_with "callWith ref" => ((k_here; k_dflt (first | (refine' callWith_K ?zzk1 ?zzk2 ?_; (case zzk1 => k_asm); (case zzk2 => k_is); k_whole) | (refine' callWith_KW ?zzk1 ?zzk2 ?zzk3 ?_; (case zzk1 => k_asm); (case zzk2 => k_is); (case zzk3 => exact rfl); k_whole)))))
  (k_with "call builtin:len" => ((k_here; (with_reducible show wpAny _ _ (call (Value.builtin "len") [Value.ref _]) _ _ _); k_dflt (refine' my_len ?zzk1 ?zzk2 ?zzk3 ?_; (case zzk1 => k_asm); (case zzk2 => k_mem); (case zzk3 => first | assumption | omega); k_whole))))
  (k_with "callWith ref" => ((k_here; k_dflt (refine' callWith_Fn1 ?zzkf ?_; (case zzkf => with_reducible assumption); k_whole))))
  (k_with "And" => (((with_reducible show IsFn _ _ ∧ _); refine ⟨KeyFn.get (by with_reducible assumption) (by k_in) (by k_asm), ?_⟩; try dsimp only [List.nil_append, List.cons_append])))
  exact True.intro
theorem words_prims_1 : True := by
  (k_with "binaryOp LShift int int" => ((k_here; (with_reducible refine lshift_int_small ?zzkb1 ?zzkb2 ?zzkb3 ?_); (case zzkb1 => assumption); (case zzkb2 => assumption); (case zzkb3 => assumption))))
  (k_with "binaryOp RShift int int" => ((k_here; (with_reducible refine rshift_int ?zzkb1 ?_); (case zzkb1 => assumption))))
  (k_with "binaryOp BitAnd int int" => ((k_here; with_reducible refine and_int ?_)))
  (k_with "binaryOp BitOr int int" => ((k_here; with_reducible refine or_int ?_)))
  exact True.intro
theorem c_add {prog : Program} {w : World} {loose : List Str} {mean : ExcName → Option Value} {mg mb : Str → Option Value}
    {dp un : Nat} {gd : Option (List Code)} {cn : Str} {cs : Scope} {a : Addr} {ccd : Value} {cl : List (Str × Addr)} {outer : List Env} {A₀ : Around} {base h₀ : Heap} {L : Addr} {m : Str → Option Value} {s : Shared} {Q E : Value → Shared → Prop} {news : List (Addr × Obj)}
    {x y : Int} {t u : Tok}
    (B : Below A₀ base outer h₀) (F : Fr h₀ L s.heap m) (X : (hd.heap_39 w.params).In h₀) (N : News h₀ L s.heap news) (T : Top topProg loose mean mg mb h₀) (hk : cs.kind = .function)
    (hdp : dp + 1 < recursionLimit) (hun : un + 32 < cLine)
    (hret : ∀ t' h' tk', Fr h₀ L h' m → News h₀ L h' news → Q (.int (x + y) t') { s with heap := h', toks := tk' }) :
    wpAny (model prog w) (ktrTop dp un gd cn cs L a ccd cl outer) (call (.ref 57) [.int x t, .int y u]) Q E s := by
  walk_at "ENTER"
  k_steps
  exact hret _ _ _ (by assumption) (by assumption)
theorem c_sub {prog : Program} {w : World} {loose : List Str} {mean : ExcName → Option Value} {mg mb : Str → Option Value}
    {dp un : Nat} {gd : Option (List Code)} {cn : Str} {cs : Scope} {a : Addr} {ccd : Value} {cl : List (Str × Addr)} {outer : List Env} {A₀ : Around} {base h₀ : Heap} {L : Addr} {m : Str → Option Value} {s : Shared} {Q E : Value → Shared → Prop} {news : List (Addr × Obj)}
    {x y : Int} {t u : Tok}
    (B : Below A₀ base outer h₀) (F : Fr h₀ L s.heap m) (X : (hd.heap_39 w.params).In h₀) (N : News h₀ L s.heap news) (T : Top topProg loose mean mg mb h₀) (hk : cs.kind = .function)
    (hdp : dp + 1 < recursionLimit) (hun : un + 32 < cLine)
    (hret : ∀ t' h' tk', Fr h₀ L h' m → News h₀ L h' news → Q (.int (x - y) t') { s with heap := h', toks := tk' }) :
    wpAny (model prog w) (ktrTop dp un gd cn cs L a ccd cl outer) (call (.ref 92) [.int x t, .int y u]) Q E s := by
  walk_at "ENTER"
  k_steps
  exact hret _ _ _ (by assumption) (by assumption)
theorem c_lsh {prog : Program} {w : World} {loose : List Str} {mean : ExcName → Option Value} {mg mb : Str → Option Value}
    {dp un : Nat} {gd : Option (List Code)} {cn : Str} {cs : Scope} {a : Addr} {ccd : Value} {cl : List (Str × Addr)} {outer : List Env} {A₀ : Around} {base h₀ : Heap} {L : Addr} {m : Str → Option Value} {s : Shared} {Q E : Value → Shared → Prop} {news : List (Addr × Obj)}
    {x y : Int} {t u : Tok}
    (B : Below A₀ base outer h₀) (F : Fr h₀ L s.heap m) (X : (hd.heap_39 w.params).In h₀) (N : News h₀ L s.heap news) (T : Top topProg loose mean mg mb h₀) (hk : cs.kind = .function)
    (hdp : dp + 1 < recursionLimit) (hun : un + 32 < cLine) (hy : 0 ≤ y) (hy2 : y ≤ 1000000) (hx : x.natAbs < 2 ^ 64)
    (hret : ∀ t' h' tk', Fr h₀ L h' m → News h₀ L h' news → Q (.int (x * 2 ^ y.toNat) t') { s with heap := h', toks := tk' }) :
    wpAny (model prog w) (ktrTop dp un gd cn cs L a ccd cl outer) (call (.ref 71) [.int x t, .int y u]) Q E s := by
  walk_at "ENTER"
  k_steps
  exact hret _ _ _ (by assumption) (by assumption)
theorem c_rsh {prog : Program} {w : World} {loose : List Str} {mean : ExcName → Option Value} {mg mb : Str → Option Value}
    {dp un : Nat} {gd : Option (List Code)} {cn : Str} {cs : Scope} {a : Addr} {ccd : Value} {cl : List (Str × Addr)} {outer : List Env} {A₀ : Around} {base h₀ : Heap} {L : Addr} {m : Str → Option Value} {s : Shared} {Q E : Value → Shared → Prop} {news : List (Addr × Obj)}
    {x y : Int} {t u : Tok}
    (B : Below A₀ base outer h₀) (F : Fr h₀ L s.heap m) (X : (hd.heap_39 w.params).In h₀) (N : News h₀ L s.heap news) (T : Top topProg loose mean mg mb h₀) (hk : cs.kind = .function)
    (hdp : dp + 1 < recursionLimit) (hun : un + 32 < cLine) (hy : 0 ≤ y)
    (hret : ∀ t' h' tk', Fr h₀ L h' m → News h₀ L h' news → Q (.int (x.fdiv (2 ^ y.toNat)) t') { s with heap := h', toks := tk' }) :
    wpAny (model prog w) (ktrTop dp un gd cn cs L a ccd cl outer) (call (.ref 85) [.int x t, .int y u]) Q E s := by
  walk_at "ENTER"
  k_steps
  exact hret _ _ _ (by assumption) (by assumption)
theorem c_and {prog : Program} {w : World} {loose : List Str} {mean : ExcName → Option Value} {mg mb : Str → Option Value}
    {dp un : Nat} {gd : Option (List Code)} {cn : Str} {cs : Scope} {a : Addr} {ccd : Value} {cl : List (Str × Addr)} {outer : List Env} {A₀ : Around} {base h₀ : Heap} {L : Addr} {m : Str → Option Value} {s : Shared} {Q E : Value → Shared → Prop} {news : List (Addr × Obj)}
    {x y : Int} {t u : Tok}
    (B : Below A₀ base outer h₀) (F : Fr h₀ L s.heap m) (X : (hd.heap_39 w.params).In h₀) (N : News h₀ L s.heap news) (T : Top topProg loose mean mg mb h₀) (hk : cs.kind = .function)
    (hdp : dp + 1 < recursionLimit) (hun : un + 32 < cLine)
    (hret : ∀ t' h' tk', Fr h₀ L h' m → News h₀ L h' news → Q (.int (Builtin.bitAnd x y) t') { s with heap := h', toks := tk' }) :
    wpAny (model prog w) (ktrTop dp un gd cn cs L a ccd cl outer) (call (.ref 64) [.int x t, .int y u]) Q E s := by
  walk_at "ENTER"
  k_steps
  exact hret _ _ _ (by assumption) (by assumption)
theorem c_or {prog : Program} {w : World} {loose : List Str} {mean : ExcName → Option Value} {mg mb : Str → Option Value}
    {dp un : Nat} {gd : Option (List Code)} {cn : Str} {cs : Scope} {a : Addr} {ccd : Value} {cl : List (Str × Addr)} {outer : List Env} {A₀ : Around} {base h₀ : Heap} {L : Addr} {m : Str → Option Value} {s : Shared} {Q E : Value → Shared → Prop} {news : List (Addr × Obj)}
    {x y : Int} {t u : Tok}
    (B : Below A₀ base outer h₀) (F : Fr h₀ L s.heap m) (X : (hd.heap_39 w.params).In h₀) (N : News h₀ L s.heap news) (T : Top topProg loose mean mg mb h₀) (hk : cs.kind = .function)
    (hdp : dp + 1 < recursionLimit) (hun : un + 32 < cLine)
    (hret : ∀ t' h' tk', Fr h₀ L h' m → News h₀ L h' news → Q (.int (Builtin.bitOr x y) t') { s with heap := h', toks := tk' }) :
    wpAny (model prog w) (ktrTop dp un gd cn cs L a ccd cl outer) (call (.ref 78) [.int x t, .int y u]) Q E s := by
  walk_at "ENTER"
  k_steps
  exact hret _ _ _ (by assumption) (by assumption)
theorem c_eof {prog : Program} {w : World} {loose : List Str} {mean : ExcName → Option Value} {mg mb : Str → Option Value}
    {dp un : Nat} {gd : Option (List Code)} {cn : Str} {cs : Scope} {a : Addr} {ccd : Value} {cl : List (Str × Addr)} {outer : List Env} {A₀ : Around} {base h₀ : Heap} {L : Addr} {m : Str → Option Value} {s : Shared} {Q E : Value → Shared → Prop} {news : List (Addr × Obj)}
    {x : Int} {t : Tok}
    (B : Below A₀ base outer h₀) (F : Fr h₀ L s.heap m) (X : (hd.heap_39 w.params).In h₀) (N : News h₀ L s.heap news) (T : Top topProg loose mean mg mb h₀) (hk : cs.kind = .function)
    (hdp : dp + 1 < recursionLimit) (hun : un + 32 < cLine)
    (hret : ∀ h' tk', Fr h₀ L h' m → News h₀ L h' news → Q (.bool (decide (x = 0))) { s with heap := h', toks := tk' }) :
    wpAny (model prog w) (ktrTop dp un gd cn cs L a ccd cl outer) (call (.ref 130) [.int x t]) Q E s := by
  walk_at "ENTER"
  k_steps
  exact hret _ _ (by assumption) (by assumption)
theorem ints_at {us : List Value} {ns : List Int} (h : IntsAre us ns) : ∀ {i : Nat} {v : Value}, us[i]? = some v → ∃ t, v = .int (ns.getD i 0) t := by
  induction h with
  | nil => intro i v e; simp at e
  | cons a t _ ih =>
    intro i v e
    cases i with
    | zero => simp at e; exact ⟨t, by simp [← e]⟩
    | succ i => exact (ih (by simpa using e)).imp fun t h => by simpa using h
/-- an item of a list of ints at an unknown place -/
theorem my_itemI {prog : Program} {w : World} {A : Around} {E : Value → Shared → Prop} {s : Shared} {h₀ : Heap} {L l : Addr} {news : List (Addr × Obj)} {us : List Value} {ns : List Int} {c : Nat} {value slice : PySem.Expr} {k : Int} {u : Tok} {Q : Value → Shared → Prop} (N : News h₀ L s.heap news) (hm : (l, listOf us.toArray c) ∈ news)
    (hi : IntsAre us ns) (h0 : 0 ≤ k) (h1 : k < (ns.length : Int)) (hfit : ns.length < 1000) (h : ∀ t, Q (.int (ns.getD k.toNat 0) t) s)
    (hs : subscripted slice false (.ref l) (.int k u) = operate [.ref l, .int k u] (getItem (.ref l) (.int k u)) := by with_unfolding_all rfl) :
    wpAny (model prog w) A (subscriptTail value slice (.ref l) (.int k u)) Q E s := by
  have e := hi.length
  refine my_item N hm (by omega) h0 (by omega) (fun v hv => ?_) hs
  obtain ⟨t, rfl⟩ := ints_at hi hv
  exact h t
theorem mx_le : ∀ (ls : List Int) (b : Int), b ≤ ls.foldl max b ∧ ∀ a ∈ ls, a ≤ ls.foldl max b
  | [], b => ⟨by simp, fun _ h => nomatch h⟩
  | x :: r, b => by
    obtain ⟨h1, h2⟩ := mx_le r (max b x)
    refine ⟨by simp only [List.foldl_cons]; omega, fun a ha => ?_⟩
    simp only [List.foldl_cons]
    rcases List.mem_cons.mp ha with rfl | ha
    · omega
    · exact h2 a ha
theorem mx_mem : ∀ (ls : List Int) (b : Int), ls.foldl max b = b ∨ ls.foldl max b ∈ ls
  | [], b => .inl rfl
  | x :: r, b => by
    simp only [List.foldl_cons]
    rcases mx_mem r (max b x) with h | h
    · rw [h]
      by_cases hb : b ≤ x
      · rw [Int.max_eq_right hb]; exact .inr (.head _)
      · exact .inl (by omega)
    · exact .inr (.tail _ h)
theorem mx_eq {ls : List Int} {M : Int} (h1 : M ∈ ls) (h2 : ∀ a, a ∈ ls → a ≤ M) (h3 : ∀ a ∈ ls, 0 ≤ a) : M = mx ls := by
  have a := (mx_le ls 0).2 M h1
  have c := h3 M h1
  show M = ls.foldl max 0
  rcases mx_mem ls 0 with h | h
  · omega
  · have := h2 _ h
    omega
theorem my_max {prog : Program} {w : World} {A : Around} {E : Value → Shared → Prop} {s : Shared} {h₀ : Heap} {L l : Addr} {m : Str → Option Value} {news : List (Addr × Obj)} {us : List Value} {ls : List Int} {n : Nat} {Q : Value → Shared → Prop}
    (F : Fr h₀ L s.heap m) (N : News h₀ L s.heap news) (hl : (l, listOf us.toArray n) ∈ news) (hi : IntsAre us ls) (hne : 0 < ls.length) (hpos : ∀ a ∈ ls, 0 ≤ a) (hh : A.handled = none)
    (hret : ∀ t' h' tk', Fr h₀ L h' m → News h₀ L h' news → Q (.int (mx ls) t') { s with heap := h', toks := tk' }) :
    wpAny (model prog w) A (call (.builtin "max") [.ref l]) Q E s :=
  kso_max F N ⟨_, (N _ hl).1, rfl, n, rfl⟩ hi hne hh fun h' M t' tk F' N' h1 h2 => by
    rw [mx_eq h1 h2 hpos]
    exact hret _ _ _ F' N'

end
section
theorem words_idx : True := by
  k_with_none
  (k_with "CJ" => (with_reducible first | assumption | exact cj0 ‹_› | exact cj1 ‹_› | exact cl1 ‹_› | exact cj2 ‹_› | exact cl2 ‹_› | exact cj3 ‹_› | exact cl3 ‹_› | exact cj4 ‹_› | exact cl4 ‹_› | exact cj5 ‹_› | exact cl5 ‹_› | exact cj6 ‹_› | exact cl6 ‹_› | exact cj7 ‹_› | exact cl7 ‹_› | exact cj8 ‹_› | exact cl8 ‹_› | exact cj9 ‹_› | exact cl9 ‹_› | exact cj10 ‹_› | exact cl10 ‹_› | exact cj11 ‹_› | exact cl11 ‹_› | exact cj12 ‹_› | exact cl12 ‹_›))
  (k_with "k_ne" => (((refine neN ?_); (try dsimp only); first | exact Nat.ne_of_gt (by k_extra "CJ") | exact Nat.ne_of_lt (by k_extra "CJ") | k_extra "CJ" | exact Ne.symm (by k_extra "CJ"))))
  (k_with "ktr_room" => (first | exact rm0 ‹_› | exact rm1 ‹_› rfl | exact rm2 ‹_› rfl | exact rm3 ‹_› rfl))
  (k_with "ktr_units" => (first | exact rm0 ‹_› | exact rm1 ‹_› rfl | exact rm2 ‹_› rfl | exact rm3 ‹_› rfl))
  (k_with "k_mem" => (first | exact List.Mem.head _ | (refine' List.Mem.tail _ ?_; k_mem) | (show (_ : Addr × Obj) ∈ (_ : List (Addr × Obj)); with_reducible assumption)))
  (k_with "BINDS" => (first | exact BindsTo.of_eq rfl | exact binds_K (by k_in) rfl (by k_is) rfl rfl rfl | (refine' kp_binds ?zzkx ?zzke; (case zzkx => k_in); (case zzke => exact fun _ => rfl))))
  (k_with "callWith ref" => ((k_here; k_dflt (first | (refine' callWith_K ?zzk1 ?zzk2 ?_; (case zzk1 => k_asm); (case zzk2 => k_is); k_whole) | (refine' callWith_KW ?zzk1 ?zzk2 ?zzk3 ?_; (case zzk1 => k_asm); (case zzk2 => k_is); (case zzk3 => exact rfl); k_whole)))))
  (k_with "call builtin:len" => ((k_here; (with_reducible show wpAny _ _ (call (Value.builtin "len") [Value.ref _]) _ _ _); k_dflt (refine' my_len ?zzk1 ?zzk2 ?zzk3 ?_; (case zzk1 => k_asm); (case zzk2 => k_mem); (case zzk3 => first | assumption | omega); k_whole))))
  (k_with "callWith ref" => ((k_here; k_dflt (refine' callWith_Fn1 ?zzkf ?_; (case zzkf => with_reducible assumption); k_whole))))
  (k_with "And" => (((with_reducible show IsFn _ _ ∧ _); refine ⟨KeyFn.get (by with_reducible assumption) (by k_in) (by k_asm), ?_⟩; try dsimp only [List.nil_append, List.cons_append])))
  (k_with "ENTERL" => ((refine wpAny_call ?_; k_dflt (refine' code_sub  ?zzk1 ?zzk2 ?zzk3 ?zzk4 ?zzk5 ?zzkD ?zzkR ?zzkA ?zzkF ?zzkK ?zzk6 ?zzk7 ?zzk8 ?zzk9 ?zzkB ?_ ?zzc2 ?zzc3 ?zzc4 ?zzc5; (case zzkA => exact rfl); (case zzkF => exact rfl); (case zzkK => assumption); (case zzk1 => k_asm); (case zzk2 => k_asm); (case zzk3 => k_asm); (case zzk4 => k_asm); (case zzk5 => k_asm); (case zzkD => exact List.forall_mem_cons.mpr ⟨by with_reducible assumption, List.forall_mem_nil _⟩); (case zzkR => exact news_rest); (case zzk6 => k_is); (case zzk7 => k_is); (case zzk8 => ktr_room); (case zzk9 => walk_at "BINDS"); (case zzc5 => decide); (case zzkB => exact locs rfl); (case zzc2 => exact rfl); (case zzc3 => exact rfl); (case zzc4 => exact rfl); k_whole; (first | (k_extra "EPSENT"; refine no_implicit_lambda% (all_eps3 (i := by k_extra "NE9") ?_); generalize pj0 _ = g', pj1 _ = L', pj2 _ = h'; intro FG' F' N' B' X' T' NR' _) | intro g' L' h' FG' F' N' B' X' T' NR' _); (try dsimp only); (try k_lift B'); (try k_fold)))))
  (k_with "SAME" => (first | exact Same.refl _ _ | (intros z h9; (simp only [List.contains_cons, List.contains_nil, Bool.or_false, Bool.or_eq_false_iff, beq_eq_false_iff_ne, ne_eq] at h9); simp [h9])))
  (k_with "SUBS" => (first | exact List.forall_mem_nil _ | (refine List.forall_mem_cons.mpr ⟨by k_mem, ?_⟩; walk_at "SUBS")))
  (k_with "CompEnd" => ((k_dflt (refine' compEnd_same ?zzF ?zzN ?zzoff ?zzsrc ?_; (case zzF => k_asm); (case zzN => k_asm); (case zzoff => first | assumption | ((simp only [LCg.Off3, and_true]); first | done | assumption)); (case zzsrc => lcg_src)))))
  exact True.intro
theorem ix_at {x : Int} : ∀ {ns : List Int} {i : Nat}, ns[i]? = some x → (∀ j, j < i → ns[j]? ≠ some x) → ix ns x = i
  | [], i, h, _ => by simp at h
  | a :: r, 0, h, _ => by
    simp at h
    simp [ix, h]
  | a :: r, i + 1, h, k => by
    have h0 := k 0 (by omega)
    have : a ≠ x := fun e => h0 (by simp [e])
    have := ix_at (ns := r) (i := i) (by simpa using h) fun j hj => by simpa using k (j + 1) (by omega)
    simp [ix, *]
/-- tokens that tell x apart from all others of the list -/
def TokX (us : List Value) (x : Int) (u : Tok) : Prop := u ≠ 0 ∧ ∀ a t, Value.int a t ∈ us → t ≠ 0 ∧ (t = u → a = x) ∧ -5 ≤ a ∧ a ≤ 256
abbrev ijS : List Str := ["i", "j"]
theorem idx_call {prog : Program} {w : World} {A : Around} {E : Value → Shared → Prop} {s : Shared} {env : Env} {h₀ : Heap} {elts : List PySem.Expr} {kt : Nat} {tpos : Pos} {body orelse : List Stmt} {Q : Flow → Shared → Prop} {l : Addr} {us : List Value} {c : Nat} {m : Str → Option Value} {ns : List Int} {x : Int} {u : Tok}
    (hh : A.handled = none) (F : Fr h₀ env.locals s.heap m) (N : News h₀ env.locals s.heap [(l, listOf us.toArray c)]) (hi : IntsAre us ns) (htx : TokX us x u) (hx : x ∈ ns)
    (step : ∀ (i : Nat) (a : Int) (ta t0 : Tok) (T e it : Addr) (oe oi : Obj) (z : Str → Option Value) (h₁ : Heap), ns[i]? = some a → (∀ j, j < i → ns[j]? ≠ some x) → ta ≠ 0 → u ≠ 0 → (ta = u → a = x) → -5 ≤ a ∧ a ≤ 256 → s.toks ≤ t0 → l ≠ e → l ≠ it → l < T → T ≠ e → T ≠ it → e ≠ it →
      Fr h₀ env.locals h₁ (fun y => if ijS.contains y then z y else m y) → News h₀ env.locals h₁ [(e, oe), (it, oi), (T, { cls := .type "tuple", data := .seq #[.int i t0, .int a ta] }), (l, listOf us.toArray c)] →
      wpAny (model prog w) A (assign (.Tuple elts kt tpos) env (.ref T)) (fun _ s₃ => wpAny (model prog w) A (execs body env) (StepT h₀ env.locals [e, it] [(e, oe), (it, oi)] [(l, listOf us.toArray c)] (fun _ m' nl => Same ijS m m' ∧ nl = [(l, listOf us.toArray c)] ∧ a ≠ x) { s with heap := h₁, toks := t0 + 1 } Q) E s₃) E { s with heap := h₁, toks := t0 + 1 })
    (hE : PassesOwn (model prog w) A env E := by passes_own) :
    wpAny (model prog w) A (call (.type "enumerate") [.ref l]) (fun xv s₁ => LoopAt prog w A env (.Tuple elts kt tpos) body orelse Q E xv s₁) E s := by
  refine LoopAt.enumCall (fun i tk m' nl => Same ijS m m' ∧ nl = [(l, listOf us.toArray c)] ∧ ∀ j, j < i → ns[j]? ≠ some x) hh F N (.head _) ⟨Same.refl _ _, rfl, fun j hj => absurd hj (Nat.not_lt_zero _)⟩ ?_ ?_ (fun i t t' m' nl h _ => h) hE
  · rintro i v t0 T e it oe oi m₁ nl h₁ hv ⟨hS, rfl, hj⟩ h1 h2 h3 h4 h5 h6 F₁ N₁
    obtain ⟨a, ta, rfl, ha⟩ := ints_get hi hv
    obtain ⟨b1, b2, b3⟩ := htx.2 a ta (List.mem_of_getElem? hv)
    have h3 := h3 _ (.head _)
    rw [hS.eq] at F₁
    refine wpAny_mono (step i a ta t0 T e it oe oi m₁ h₁ ha hj b1 htx.1 b2 b3 h1 h3.1 h3.2.1 h3.2.2 h4 h5 h6 F₁ N₁) (fun _ s₃ hb => wpAny_mono hb (fun f s₄ hs hle => ?_) fun _ _ e => e) fun _ _ e => e
    have hs := hs hle
    have next : (∃ h' tk m' nl, s₄ = { s with heap := h', toks := tk } ∧ Fr h₀ env.locals h' m' ∧ News h₀ env.locals h' ([(e, oe), (it, oi)] ++ nl) ∧ (∀ p ∈ nl, p.1 ∉ [e, it]) ∧ (∀ p ∈ [(l, listOf us.toArray c)], p ∈ nl) ∧ Same ijS m m' ∧ nl = [(l, listOf us.toArray c)] ∧ a ≠ x) →
        ∃ h' tk m' nl, s₄ = { s with heap := h', toks := tk } ∧ Fr h₀ env.locals h' m' ∧ News h₀ env.locals h' ([(e, oe), (it, oi)] ++ nl) ∧ (∀ p ∈ nl, p.1 ∉ [e, it]) ∧ (∀ p ∈ [(l, listOf us.toArray c)], p ∈ nl) ∧ Same ijS m m' ∧ nl = [(l, listOf us.toArray c)] ∧ ∀ j, j < i + 1 → ns[j]? ≠ some x := by
      rintro ⟨h', tk, m', nl, e1, e2, e3, e4, e5, e6, e7, e8⟩
      refine ⟨h', tk, m', nl, e1, e2, e3, e4, e5, e6, e7, fun j hj' => ?_⟩
      rcases Nat.lt_succ_iff_lt_or_eq.mp hj' with hj' | rfl
      · exact hj j hj'
      · rw [ha]; simpa using e8
    cases f with
    | ret v => exact hs
    | brk => exact hs
    | cont => exact next hs
    | next => exact next hs
  · rintro h' tk m' nl ⟨_, _, hj⟩ _ _ _ _
    obtain ⟨i, hi', e⟩ := List.mem_iff_getElem.mp hx
    exact absurd (by rw [List.getElem?_eq_getElem hi', e]) (hj i (by rw [hi.length]; exact hi'))
theorem words_idx_1 : True := by
  (k_with "execs cons" => (((with_reducible refine wpAny_execs_cons ?_); try dsimp only)))
  (k_with "exec For Tuple Call cons cons" => ((k_here; k_dflt (refine' For_at ?_); k_whole)))
  (k_with "compareOp Is int int" => ((k_here; refine' is_int ?zzka ?zzkb ?zzkc ?zzkd ?_; (case zzka => assumption); (case zzkb => assumption); (case zzkc => assumption); (case zzkd => exact fun _ => by assumption); k_whole)))
  exact True.intro
theorem c_idx {prog : Program} {w : World} {loose : List Str} {mean : ExcName → Option Value} {mg mb : Str → Option Value}
    {dp un : Nat} {gd : Option (List Code)} {cn : Str} {cs : Scope} {a : Addr} {ccd : Value} {cl : List (Str × Addr)} {outer : List Env} {A₀ : Around} {base h₀ : Heap} {L : Addr} {m : Str → Option Value} {s : Shared} {Q E : Value → Shared → Prop} {news : List (Addr × Obj)}
    {l : Addr} {n : Nat} {us : List Value} {ns : List Int} {x : Int} {t : Tok}
    (B : Below A₀ base outer h₀) (F : Fr h₀ L s.heap m) (X : (hd.heap_39 w.params).In h₀) (N : News h₀ L s.heap news) (T : Top topProg loose mean mg mb h₀) (hk : cs.kind = .function)
    (hdp : dp + 1 < recursionLimit) (hun : un + 64 < cLine) (hl : (l, listOf us.toArray n) ∈ news) (hi : IntsAre us ns) (htx : TokX us x t) (hx : x ∈ ns)
    (hret : ∀ t' h' tk', Fr h₀ L h' m → News h₀ L h' news → s.toks ≤ t' → Q (.int ((ix ns x : Nat) : Int) t') { s with heap := h', toks := tk' }) :
    wpAny (model prog w) (ktrTop dp un gd cn cs L a ccd cl outer) (call (.ref 120) [.ref l, .int x t]) Q E s := by
  (k_with "call type:enumerate" => (refine' idx_call ?kh ?kF ?kN hi htx hx ?_; (case kh => exact rfl); (case kF => k_asm); (case kN => k_asm); intro i b tb t0 T e it oe oi z h9 b1 b2 b3 b4 b5 b6 b7 b8 b9 b10 b11 b12 b13 lF2 lN2; (try dsimp only); (try k_fold)))
  walk_at "ENTERL"
  k_steps
  all_goals (try dsimp only)
  all_goals first
    | (refine StepT.next (by assumption) (news_sub (by assumption) (by walk_at "SUBS")) ?_ (by walk_at "SUBS") fun _ => ⟨by walk_at "SAME", rfl, by assumption⟩
       intro p hp
       rw [List.mem_singleton.mp hp]
       simp [*])
    | (refine StepT.ret fun _ => ?_
       dsimp only
       k_steps)
  all_goals (
    (rename News _ _ _ _ => kN9)
    intro NR9
    have e9 : ix ns x = i := ix_at (by rw [‹ns[i]? = some b›, ‹b = x›]) (by assumption)
    have hr9 := hret t0 _ (t0 + 1 + 1 + 1) (by assumption) (news_back N hl NR9 (news_sub kN9 (by walk_at "SUBS"))) (Nat.le_trans (Nat.le_add_right _ _) b7)
    rw [e9] at hr9
    exact hr9)

end
section
theorem words_tuplt : True := by
  k_with_none
  (k_with "CJ" => (with_reducible first | assumption | exact cj0 ‹_› | exact cj1 ‹_› | exact cl1 ‹_› | exact cj2 ‹_› | exact cl2 ‹_› | exact cj3 ‹_› | exact cl3 ‹_› | exact cj4 ‹_› | exact cl4 ‹_› | exact cj5 ‹_› | exact cl5 ‹_› | exact cj6 ‹_› | exact cl6 ‹_› | exact cj7 ‹_› | exact cl7 ‹_› | exact cj8 ‹_› | exact cl8 ‹_› | exact cj9 ‹_› | exact cl9 ‹_› | exact cj10 ‹_› | exact cl10 ‹_› | exact cj11 ‹_› | exact cl11 ‹_› | exact cj12 ‹_› | exact cl12 ‹_›))
  (k_with "k_ne" => (((refine neN ?_); (try dsimp only); first | exact Nat.ne_of_gt (by k_extra "CJ") | exact Nat.ne_of_lt (by k_extra "CJ") | k_extra "CJ" | exact Ne.symm (by k_extra "CJ"))))
  (k_with "ktr_room" => (first | exact rm0 ‹_› | exact rm1 ‹_› rfl | exact rm2 ‹_› rfl | exact rm3 ‹_› rfl))
  (k_with "ktr_units" => (first | exact rm0 ‹_› | exact rm1 ‹_› rfl | exact rm2 ‹_› rfl | exact rm3 ‹_› rfl))
  (k_with "k_mem" => (first | exact List.Mem.head _ | (refine' List.Mem.tail _ ?_; k_mem) | (show (_ : Addr × Obj) ∈ (_ : List (Addr × Obj)); with_reducible assumption)))
  (k_with "callWith ref" => ((k_here; k_dflt (first | (refine' callWith_K ?zzk1 ?zzk2 ?_; (case zzk1 => k_asm); (case zzk2 => k_is); k_whole) | (refine' callWith_KW ?zzk1 ?zzk2 ?zzk3 ?_; (case zzk1 => k_asm); (case zzk2 => k_is); (case zzk3 => exact rfl); k_whole)))))
  (k_with "call builtin:len" => ((k_here; (with_reducible show wpAny _ _ (call (Value.builtin "len") [Value.ref _]) _ _ _); k_dflt (refine' my_len ?zzk1 ?zzk2 ?zzk3 ?_; (case zzk1 => k_asm); (case zzk2 => k_mem); (case zzk3 => first | assumption | omega); k_whole))))
  (k_with "callWith ref" => ((k_here; k_dflt (refine' callWith_Fn1 ?zzkf ?_; (case zzkf => with_reducible assumption); k_whole))))
  (k_with "And" => (((with_reducible show IsFn _ _ ∧ _); refine ⟨KeyFn.get (by with_reducible assumption) (by k_in) (by k_asm), ?_⟩; try dsimp only [List.nil_append, List.cons_append])))
  exact True.intro
theorem lt_tup {prog : Program} {w : World} {A : Around} {E : Value → Shared → Prop} {s : Shared} {a b : Addr} {x0 x1 y0 y1 : Int} {t0 t1 u0 u1 : Tok} {na nb : Nat} {Q : Value → Shared → Prop} (hu : A.units < cLine)
    (ha : s.heap.get? a = some (tupOf [.int x0 t0, .int x1 t1] na)) (hb : s.heap.get? b = some (tupOf [.int y0 u0, .int y1 u1] nb)) (h : Q (.bool (plt (x0, x1) (y0, y1))) s) :
    wpAny (model prog w) A (compareOp .Lt (.ref a) (.ref b)) Q E s := by
  show wpAny _ _ (richCompare .Lt (.ref a) (.ref b)) Q E s
  have hTa : s.TypeIs (.ref a) "tuple" := ⟨_, ha, rfl⟩
  have hTb : s.TypeIs (.ref b) "tuple" := ⟨_, hb, rfl⟩
  refine wpAny_richCompare_same_room (op := .Lt) (T := "tuple") hTa hTb F.slot_tuple_lt (wpAny_call_entry F.slot_tuple_lt hTa F.entry_tuple_lt ?_ (F.args_tuple_lt_2 _ _)) hu
  show wpAny _ _ (isInstance (.ref b) (.type "tuple") >>= _) _ _ s
  refine wpAny_bind (wpAny_isInstance hTb isSubtype_tuple_tuple ?_)
  simp only [Bool.not_true, Bool.false_eq_true, if_false]
  refine wpAny_bind (wpAny_tupleItemsOf ha rfl ?_)
  refine wpAny_bind (wpAny_tupleItemsOf hb rfl ?_)
  simp only [List.zip_cons_cons, List.zip_nil_right, List.forIn_cons, List.forIn_nil]
  have less : ∀ (x y : Int) (t u : Tok) (R : Value → Shared → Prop), R (.bool (decide (x < y))) s → wpAny (model prog w) A.in1 (richCompare .Lt (.int x t) (.int y u)) R E s := fun x y t u R hR => P.lt_int (Q := R) hR
  refine wpAny_bind (wpAny_bind (wpAny_bind (wpAny_eqBool_int ?_)))
  by_cases e0 : x0 = y0
  · rw [show (x0 == y0) = true by simp [e0]]
    simp only [Bool.not_true, Bool.false_eq_true, if_false]
    refine wpAny_pure (wpAny_bind (wpAny_bind (wpAny_eqBool_int ?_)))
    by_cases e1 : x1 = y1
    · rw [show (x1 == y1) = true by simp [e1]]
      simp only [Bool.not_true, Bool.false_eq_true, if_false]
      refine wpAny_pure (wpAny_pure ?_)
      have e : plt (x0, x1) (y0, y1) = false := by simp [plt, e0, e1]
      rw [e] at h
      exact wpAny_pure (And.intro (rfl : _ = Fin.done (Flow.ret (Value.bool false))) ⟨Value.noConfusion, h⟩ |> fun x => ⟨_, x⟩)
    · rw [show (x1 == y1) = false by simp [e1]]
      simp only [Bool.not_false, if_true]
      have e : plt (x0, x1) (y0, y1) = decide (x1 < y1) := by simp [plt, e0]
      rw [e] at h
      refine wpAny_bind (wpAny_rule (wpAny_bind (less _ _ _ _ _ ?_)))
      exact wpAny_bind (wpAny_pure (wpAny_pure (wpAny_pure (wpAny_pure ⟨_, rfl, Value.noConfusion, h⟩))))
  · rw [show (x0 == y0) = false by simp [e0]]
    simp only [Bool.not_false, if_true]
    have e : plt (x0, x1) (y0, y1) = decide (x0 < y0) := by simp [plt, e0]
    rw [e] at h
    refine wpAny_bind (wpAny_rule (wpAny_bind (less _ _ _ _ _ ?_)))
    exact wpAny_bind (wpAny_pure (wpAny_pure (wpAny_pure (wpAny_pure ⟨_, rfl, Value.noConfusion, h⟩))))

end
section
theorem words_ordcalls : True := by
  k_with_none
  (k_with "CJ" => (with_reducible first | assumption | exact cj0 ‹_› | exact cj1 ‹_› | exact cl1 ‹_› | exact cj2 ‹_› | exact cl2 ‹_› | exact cj3 ‹_› | exact cl3 ‹_› | exact cj4 ‹_› | exact cl4 ‹_› | exact cj5 ‹_› | exact cl5 ‹_› | exact cj6 ‹_› | exact cl6 ‹_› | exact cj7 ‹_› | exact cl7 ‹_› | exact cj8 ‹_› | exact cl8 ‹_› | exact cj9 ‹_› | exact cl9 ‹_› | exact cj10 ‹_› | exact cl10 ‹_› | exact cj11 ‹_› | exact cl11 ‹_› | exact cj12 ‹_› | exact cl12 ‹_›))
  (k_with "k_ne" => (((refine neN ?_); (try dsimp only); first | exact Nat.ne_of_gt (by k_extra "CJ") | exact Nat.ne_of_lt (by k_extra "CJ") | k_extra "CJ" | exact Ne.symm (by k_extra "CJ"))))
  (k_with "ktr_room" => (first | exact rm0 ‹_› | exact rm1 ‹_› rfl | exact rm2 ‹_› rfl | exact rm3 ‹_› rfl))
  (k_with "ktr_units" => (first | exact rm0 ‹_› | exact rm1 ‹_› rfl | exact rm2 ‹_› rfl | exact rm3 ‹_› rfl))
  (k_with "k_mem" => (first | exact List.Mem.head _ | (refine' List.Mem.tail _ ?_; k_mem) | (show (_ : Addr × Obj) ∈ (_ : List (Addr × Obj)); with_reducible assumption)))
  (k_with "callWith ref" => ((k_here; k_dflt (first | (refine' callWith_K ?zzk1 ?zzk2 ?_; (case zzk1 => k_asm); (case zzk2 => k_is); k_whole) | (refine' callWith_KW ?zzk1 ?zzk2 ?zzk3 ?_; (case zzk1 => k_asm); (case zzk2 => k_is); (case zzk3 => exact rfl); k_whole)))))
  (k_with "call builtin:len" => ((k_here; (with_reducible show wpAny _ _ (call (Value.builtin "len") [Value.ref _]) _ _ _); k_dflt (refine' my_len ?zzk1 ?zzk2 ?zzk3 ?_; (case zzk1 => k_asm); (case zzk2 => k_mem); (case zzk3 => first | assumption | omega); k_whole))))
  (k_with "callWith ref" => ((k_here; k_dflt (refine' callWith_Fn1 ?zzkf ?_; (case zzkf => with_reducible assumption); k_whole))))
  (k_with "And" => (((with_reducible show IsFn _ _ ∧ _); refine ⟨KeyFn.get (by with_reducible assumption) (by k_in) (by k_asm), ?_⟩; try dsimp only [List.nil_append, List.cons_append])))
  (k_with "CompEnd" => ((k_dflt (refine' compEnd_same ?zzF ?zzN ?zzoff ?zzsrc ?_; (case zzF => k_asm); (case zzN => k_asm); (case zzoff => first | assumption | ((simp only [LCg.Off3, and_true]); first | done | assumption)); (case zzsrc => lcg_src)))))
  exact True.intro
theorem ints_ins {us : List Value} {ns : List Int} (h : IntsAre us ns) (r : Nat) (k : Int) (t : Tok) : IntsAre (insAt r (.int k t) us) (insAt r k ns) := by
  have take : ∀ {us : List Value} {ns : List Int}, IntsAre us ns → ∀ n, IntsAre (us.take n) (ns.take n) := by
    intro us ns h
    induction h with
    | nil => intro n; simp; exact .nil
    | cons a t _ ih =>
      intro n
      cases n with
      | zero => exact .nil
      | succ n => exact .cons a t (ih n)
  have drop : ∀ {us : List Value} {ns : List Int}, IntsAre us ns → ∀ n, IntsAre (us.drop n) (ns.drop n) := by
    intro us ns h
    induction h with
    | nil => intro n; simp; exact .nil
    | cons a t r ih =>
      intro n
      cases n with
      | zero => exact .cons a t r
      | succ n => exact ih n
  exact (take h r).append (.cons k t (drop h r))
/-- a pair of ints of the ledger -/
inductive PairIn (D : List (Addr × Obj)) : Value → Int × Int → Prop
  | mk {a : Addr} {x y : Int} {t u : Tok} {n : Nat} : (a, tupOf [.int x t, .int y u] n) ∈ D → PairIn D (.ref a) (x, y)
abbrev PairsIn (D : List (Addr × Obj)) : List Value → List (Int × Int) → Prop := All2 (PairIn D)
theorem PairsIn.mono {D D' : List (Addr × Obj)} (hs : ∀ p ∈ D, p ∈ D') {vs : List Value} {ps : List (Int × Int)} (h : PairsIn D vs ps) : PairsIn D' vs ps := All2.mono h fun _ _ h => by
  cases h with
  | mk h1 => exact .mk (hs _ h1)
theorem iR_lam {prog : Program} {w : World} {loose : List Str} {mean : ExcName → Option Value} {mg mb : Str → Option Value}
    {dp un : Nat} {gd : Option (List Code)} {cn : Str} {cs : Scope} {a : Addr} {ccd : Value} {cl : List (Str × Addr)} {outer : List Env} {A₀ : Around} {base h₀ : Heap} {L : Addr} {m : Str → Option Value} {s : Shared} {Q E : Value → Shared → Prop} {news : List (Addr × Obj)}
    {l kf : Addr} {ov : List Value} {os ls : List Int} {n : Nat} {k : Int} {t : Tok} {g : Obj → List (Addr × Obj)}
    (B : Below A₀ base outer h₀) (F : Fr h₀ L s.heap m) (X : (hd.heap_39 w.params).In h₀) (N : News h₀ L s.heap news) (T : Top topProg loose mean mg mb h₀) (hk : cs.kind = .function)
    (hdp : dp + 3 < recursionLimit) (hun : un + 24 < cLine) (hU : UpdF l (listOf ov.toArray n) news g) (hi : IntsAre ov os) (hr : ∀ o ∈ os, 0 ≤ o ∧ o < 5) (hlen : os.length < 1000) (h0 : 0 ≤ k) (h5 : k < 5) (hfn : KeyFn w news kf)
    (LK : ∀ (o : Int) (t : Tok), 0 ≤ o → o < 5 → KeyOk prog w loose mean mg mb news kf (.int o t) (ls.getD o.toNat 0))
    (hret : ∀ h' tk', Fr h₀ L h' m → News h₀ L h' (g (listOf (insAt (bisN (fun j => decide (ls.getD (os.getD j 0).toNat 0 ≤ ls.getD k.toNat 0)) 0 os.length) (.int k t) ov).toArray (n + 1))) → Q .none { s with heap := h', toks := tk' }) :
    wpAny (model prog w) (ktrTop dp un gd cn cs L a ccd cl outer) (call (.ref 23) [.ref l, .int k t] [("key", .ref kf)]) Q E s := by
  have e := hi.length
  refine iR_key (x := ls.getD k.toNat 0) (kk := fun j => ls.getD (os.getD j 0).toNat 0) B F X N T hk hdp hun hU (by omega) hfn (fun i v hv => ?_) (LK k t h0 h5) fun h' tk' F' N' => hret h' tk' F' (by rw [e] at N'; exact N')
  obtain ⟨o, u, rfl, ho⟩ := ints_get hi hv
  have hm := hr o (List.mem_of_getElem? ho)
  have eo : os.getD i 0 = o := by rw [List.getD_eq_getElem?_getD, ho]; rfl
  show KeyOk prog w loose mean mg mb news kf (.int o u) (ls.getD (os.getD i 0).toNat 0)
  rw [eo]
  exact LK o u hm.1 hm.2
theorem iL_lam {prog : Program} {w : World} {loose : List Str} {mean : ExcName → Option Value} {mg mb : Str → Option Value}
    {dp un : Nat} {gd : Option (List Code)} {cn : Str} {cs : Scope} {a : Addr} {ccd : Value} {cl : List (Str × Addr)} {outer : List Env} {A₀ : Around} {base h₀ : Heap} {L : Addr} {m : Str → Option Value} {s : Shared} {Q E : Value → Shared → Prop} {news : List (Addr × Obj)}
    {l kf : Addr} {ov : List Value} {os ls : List Int} {n : Nat} {k : Int} {t : Tok} {g : Obj → List (Addr × Obj)}
    (B : Below A₀ base outer h₀) (F : Fr h₀ L s.heap m) (X : (hd.heap_39 w.params).In h₀) (N : News h₀ L s.heap news) (T : Top topProg loose mean mg mb h₀) (hk : cs.kind = .function)
    (hdp : dp + 3 < recursionLimit) (hun : un + 24 < cLine) (hU : UpdF l (listOf ov.toArray n) news g) (hi : IntsAre ov os) (hr : ∀ o ∈ os, 0 ≤ o ∧ o < 5) (hlen : os.length < 1000) (h0 : 0 ≤ k) (h5 : k < 5) (hfn : KeyFn w news kf)
    (LK : ∀ (o : Int) (t : Tok), 0 ≤ o → o < 5 → KeyOk prog w loose mean mg mb news kf (.int o t) (ls.getD o.toNat 0))
    (hret : ∀ h' tk', Fr h₀ L h' m → News h₀ L h' (g (listOf (insAt (bisN (fun j => decide (ls.getD (os.getD j 0).toNat 0 < ls.getD k.toNat 0)) 0 os.length) (.int k t) ov).toArray (n + 1))) → Q .none { s with heap := h', toks := tk' }) :
    wpAny (model prog w) (ktrTop dp un gd cn cs L a ccd cl outer) (call (.ref 41) [.ref l, .int k t] [("key", .ref kf)]) Q E s := by
  have e := hi.length
  refine iL_key (x := ls.getD k.toNat 0) (kk := fun j => ls.getD (os.getD j 0).toNat 0) B F X N T hk hdp hun hU (by omega) hfn (fun i v hv => ?_) (LK k t h0 h5) fun h' tk' F' N' => hret h' tk' F' (by rw [e] at N'; exact N')
  obtain ⟨o, u, rfl, ho⟩ := ints_get hi hv
  have hm := hr o (List.mem_of_getElem? ho)
  have eo : os.getD i 0 = o := by rw [List.getD_eq_getElem?_getD, ho]; rfl
  show KeyOk prog w loose mean mg mb news kf (.int o u) (ls.getD (os.getD i 0).toNat 0)
  rw [eo]
  exact LK o u hm.1 hm.2
theorem iR_pair {prog : Program} {w : World} {loose : List Str} {mean : ExcName → Option Value} {mg mb : Str → Option Value}
    {dp un : Nat} {gd : Option (List Code)} {cn : Str} {cs : Scope} {a : Addr} {ccd : Value} {cl : List (Str × Addr)} {outer : List Env} {A₀ : Around} {base h₀ : Heap} {L : Addr} {m : Str → Option Value} {s : Shared} {Q E : Value → Shared → Prop} {news : List (Addr × Obj)}
    {l T9 : Addr} {pv : List Value} {ps : List (Int × Int)} {n nx : Nat} {x y : Int} {t u : Tok} {g : Obj → List (Addr × Obj)} {D : List (Addr × Obj)}
    (B : Below A₀ base outer h₀) (F : Fr h₀ L s.heap m) (X : (hd.heap_39 w.params).In h₀) (N : News h₀ L s.heap news) (T : Top topProg loose mean mg mb h₀) (hk : cs.kind = .function)
    (hdp : dp + 3 < recursionLimit) (hun : un + 24 < cLine) (hU : UpdF l (listOf pv.toArray n) news g) (hp : PairsIn D pv ps) (hD : ∀ p ∈ D, p ∈ news) (hlen : ps.length < 1000) (hx : (T9, tupOf [.int x t, .int y u] nx) ∈ news)
    (hret : ∀ h' tk', Fr h₀ L h' m → News h₀ L h' (g (listOf (insAt (bisN (fun j => !(plt (x, y) (ps.getD j (0, 0)))) 0 ps.length) (.ref T9) pv).toArray (n + 1))) → Q .none { s with heap := h', toks := tk' }) :
    wpAny (model prog w) (ktrTop dp un gd cn cs L a ccd cl outer) (call (.ref 23) [.ref l, .ref T9] []) Q E s := by
  have e := hp.length
  refine iR_no (lt := fun j => plt (x, y) (ps.getD j (0, 0))) B F X N T hk hdp hun hU (by omega) (fun i v hv => ?_) fun h' tk' F' N' => hret h' tk' F' (by rw [e] at N'; exact N')
  intro A9 h9 L9 m9 s9 Q9 E9 hu9 F9 X9 N9 hret9
  obtain ⟨q, hq, hr⟩ := hp.get hv
  have eq : ps.getD i (0, 0) = q := by rw [List.getD_eq_getElem?_getD, hq]; rfl
  cases hr with
  | mk h1 =>
    refine lt_tup hu9 (N9 _ hx).1 (N9 _ (hD _ h1)).1 ?_
    have := hret9 s9.heap s9.toks F9 N9
    dsimp only at this
    rw [eq] at this
    exact this
theorem iL_pair {prog : Program} {w : World} {loose : List Str} {mean : ExcName → Option Value} {mg mb : Str → Option Value}
    {dp un : Nat} {gd : Option (List Code)} {cn : Str} {cs : Scope} {a : Addr} {ccd : Value} {cl : List (Str × Addr)} {outer : List Env} {A₀ : Around} {base h₀ : Heap} {L : Addr} {m : Str → Option Value} {s : Shared} {Q E : Value → Shared → Prop} {news : List (Addr × Obj)}
    {l T9 : Addr} {pv : List Value} {ps : List (Int × Int)} {n nx : Nat} {x y : Int} {t u : Tok} {g : Obj → List (Addr × Obj)} {D : List (Addr × Obj)}
    (B : Below A₀ base outer h₀) (F : Fr h₀ L s.heap m) (X : (hd.heap_39 w.params).In h₀) (N : News h₀ L s.heap news) (T : Top topProg loose mean mg mb h₀) (hk : cs.kind = .function)
    (hdp : dp + 3 < recursionLimit) (hun : un + 24 < cLine) (hU : UpdF l (listOf pv.toArray n) news g) (hp : PairsIn D pv ps) (hD : ∀ p ∈ D, p ∈ news) (hlen : ps.length < 1000) (hx : (T9, tupOf [.int x t, .int y u] nx) ∈ news)
    (hret : ∀ h' tk', Fr h₀ L h' m → News h₀ L h' (g (listOf (insAt (bisN (fun j => plt (ps.getD j (0, 0)) (x, y)) 0 ps.length) (.ref T9) pv).toArray (n + 1))) → Q .none { s with heap := h', toks := tk' }) :
    wpAny (model prog w) (ktrTop dp un gd cn cs L a ccd cl outer) (call (.ref 41) [.ref l, .ref T9] []) Q E s := by
  have e := hp.length
  refine iL_no (lt := fun j => plt (ps.getD j (0, 0)) (x, y)) B F X N T hk hdp hun hU (by omega) (fun i v hv => ?_) fun h' tk' F' N' => hret h' tk' F' (by rw [e] at N'; exact N')
  intro A9 h9 L9 m9 s9 Q9 E9 hu9 F9 X9 N9 hret9
  obtain ⟨q, hq, hr⟩ := hp.get hv
  have eq : ps.getD i (0, 0) = q := by rw [List.getD_eq_getElem?_getD, hq]; rfl
  cases hr with
  | mk h1 =>
    refine lt_tup hu9 (N9 _ (hD _ h1)).1 (N9 _ hx).1 ?_
    have := hret9 s9.heap s9.toks F9 N9
    dsimp only at this
    rw [eq] at this
    exact this

end
section
theorem words_sortp : True := by
  k_with_none
  (k_with "CJ" => (with_reducible first | assumption | exact cj0 ‹_› | exact cj1 ‹_› | exact cl1 ‹_› | exact cj2 ‹_› | exact cl2 ‹_› | exact cj3 ‹_› | exact cl3 ‹_› | exact cj4 ‹_› | exact cl4 ‹_› | exact cj5 ‹_› | exact cl5 ‹_› | exact cj6 ‹_› | exact cl6 ‹_› | exact cj7 ‹_› | exact cl7 ‹_› | exact cj8 ‹_› | exact cl8 ‹_› | exact cj9 ‹_› | exact cl9 ‹_› | exact cj10 ‹_› | exact cl10 ‹_› | exact cj11 ‹_› | exact cl11 ‹_› | exact cj12 ‹_› | exact cl12 ‹_›))
  (k_with "k_ne" => (((refine neN ?_); (try dsimp only); first | exact Nat.ne_of_gt (by k_extra "CJ") | exact Nat.ne_of_lt (by k_extra "CJ") | k_extra "CJ" | exact Ne.symm (by k_extra "CJ"))))
  (k_with "ktr_room" => (first | exact rm0 ‹_› | exact rm1 ‹_› rfl | exact rm2 ‹_› rfl | exact rm3 ‹_› rfl))
  (k_with "ktr_units" => (first | exact rm0 ‹_› | exact rm1 ‹_› rfl | exact rm2 ‹_› rfl | exact rm3 ‹_› rfl))
  (k_with "k_mem" => (first | exact List.Mem.head _ | (refine' List.Mem.tail _ ?_; k_mem) | (show (_ : Addr × Obj) ∈ (_ : List (Addr × Obj)); with_reducible assumption)))
  (k_with "callWith ref" => ((k_here; k_dflt (first | (refine' callWith_K ?zzk1 ?zzk2 ?_; (case zzk1 => k_asm); (case zzk2 => k_is); k_whole) | (refine' callWith_KW ?zzk1 ?zzk2 ?zzk3 ?_; (case zzk1 => k_asm); (case zzk2 => k_is); (case zzk3 => exact rfl); k_whole)))))
  (k_with "call builtin:len" => ((k_here; (with_reducible show wpAny _ _ (call (Value.builtin "len") [Value.ref _]) _ _ _); k_dflt (refine' my_len ?zzk1 ?zzk2 ?zzk3 ?_; (case zzk1 => k_asm); (case zzk2 => k_mem); (case zzk3 => first | assumption | omega); k_whole))))
  (k_with "callWith ref" => ((k_here; k_dflt (refine' callWith_Fn1 ?zzkf ?_; (case zzkf => with_reducible assumption); k_whole))))
  (k_with "And" => (((with_reducible show IsFn _ _ ∧ _); refine ⟨KeyFn.get (by with_reducible assumption) (by k_in) (by k_asm), ?_⟩; try dsimp only [List.nil_append, List.cons_append])))
  (k_with "CompEnd" => ((k_dflt (refine' compEnd_same ?zzF ?zzN ?zzoff ?zzsrc ?_; (case zzF => k_asm); (case zzN => k_asm); (case zzoff => first | assumption | ((simp only [LCg.Off3, and_true]); first | done | assumption)); (case zzsrc => lcg_src)))))
  exact True.intro
theorem key_lt {prog : Program} {w : World} {A : Around} {E : Value → Shared → Prop} {s : Shared} {a b : Addr} {x0 x1 y0 y1 : Int} {t0 t1 u0 u1 : Tok} {na nb : Nat} {Q : Bool → Shared → Prop}
    (ha : s.heap.get? a = some (tupOf [.int x0 t0, .int x1 t1] na)) (hb : s.heap.get? b = some (tupOf [.int y0 u0, .int y1 u1] nb)) (h : Q (plt (x0, x1) (y0, y1)) s) :
    wpAny (model prog w) A (keyLt' (tuples' true) (.ref a) (.ref b)) Q E s := by
  refine kat_lt ha rfl hb rfl ?_
  show KatLex prog w A true (decide (2 < 2)) Q [(.int x0 t0, .int y0 u0), (.int x1 t1, .int y1 u1)] 0 s
  refine kat_cons (wpAny_eqBool_int ?_)
  by_cases e0 : x0 = y0
  · rw [show (x0 == y0) = true by simp [e0]]
    refine kat_yes (kat_cons (wpAny_eqBool_int ?_))
    by_cases e1 : x1 = y1
    · rw [show (x1 == y1) = true by simp [e1]]
      refine kat_yes (kat_nil ?_)
      have e : plt (x0, x1) (y0, y1) = decide (2 < 2) := by simp [plt, e0, e1]
      rw [e] at h
      exact h
    · rw [show (x1 == y1) = false by simp [e1]]
      have e : plt (x0, x1) (y0, y1) = decide (x1 < y1) := by simp [plt, e0]
      rw [e] at h
      exact kat_no (kat_one _ _ (P.lt_int h))
  · rw [show (x0 == y0) = false by simp [e0]]
    have e : plt (x0, x1) (y0, y1) = decide (x0 < y0) := by simp [plt, e0]
    rw [e] at h
    exact kat_no (oneLt_int h)
/-- the five pairs of length and place -/
def prs (ls : List Int) : List (Int × Int) := [(ls.getD 0 0, 0), (ls.getD 1 0, 1), (ls.getD 2 0, 2), (ls.getD 3 0, 3), (ls.getD 4 0, 4)]
theorem prs_get (ls : List Int) {i : Nat} (hi : i < 5) : (prs ls)[i]? = some (ls.getD i 0, (i : Int)) := by
  match i, hi with
  | 0, _ => rfl
  | 1, _ => rfl
  | 2, _ => rfl
  | 3, _ => rfl
  | 4, _ => rfl
theorem pair_at {D : List (Addr × Obj)} {vs : List Value} {ls : List Int} (hp : PairsIn D vs (prs ls)) {i : Nat} (hi : i < 5) : ∃ a t u n, vs.getD i Value.none = .ref a ∧ (a, tupOf [.int (ls.getD i 0) t, .int (i : Int) u] n) ∈ D := by
  have hl : vs.length = 5 := hp.length
  have hv : vs[i]? = some vs[i] := List.getElem?_eq_getElem (by omega)
  obtain ⟨q, hq, hr⟩ := hp.get hv
  rw [prs_get ls hi] at hq
  injection hq with hq
  subst hq
  rw [List.getD_eq_getElem?_getD, hv]
  generalize hvv : vs[i] = v at hr
  cases hr with
  | mk h1 => exact ⟨_, _, _, _, rfl, h1⟩
theorem tups_of {h : Heap} : ∀ {vs : List Value} {ps : List (Int × Int)} {D : List (Addr × Obj)} {h₀ : Heap} {L : Addr}, PairsIn D vs ps → News h₀ L h D → ∃ fs, KatTups h vs fs ∧ fs.length = ps.length ∧ ∀ v ∈ fs, ∃ a t, v = Value.int a t
  | _, _, _, _, _, .nil, _ => ⟨[], KatTups.nil, rfl, fun _ hv => nomatch hv⟩
  | _, _, _, _, _, .cons hr r, N => by
    obtain ⟨fs, h1, h2, h3⟩ := tups_of r N
    cases hr with
    | @mk a x y t u n hm => exact ⟨.int x t :: fs, KatTups.cons (N _ hm).1 rfl rfl rfl h1, by rw [List.length_cons, List.length_cons, h2], List.forall_mem_cons.mpr ⟨⟨x, t, rfl⟩, h3⟩⟩
theorem my_sortPairs {prog : Program} {w : World} {A : Around} {E : Value → Shared → Prop} {s : Shared} {h₀ : Heap} {L l : Addr} {m : Str → Option Value} {news D : List (Addr × Obj)} {vs : List Value} {ls os : List Int} {c : Nat} {Q : Value → Shared → Prop}
    (F : Fr h₀ L s.heap m) (N : News h₀ L s.heap news) (hm : (l, listOf vs.toArray c) ∈ news) (hp : PairsIn D vs (prs ls)) (hD : ∀ p ∈ D, p ∈ news) (hS : SortOk ls os)
    (h : ∀ r c h', Fr h₀ L h' m → News h₀ L h' ((r, listOf (List.toArray (os.map fun o => vs.getD o.toNat Value.none)) c) :: news) → (∀ q ∈ news, q.1 < r) → Q (.ref r) { s with heap := h' }) :
    wpAny (model prog w) A (call (.builtin "sorted") [.ref l]) Q E s := by
  have hl : vs.length = 5 := hp.length
  refine kat_sorted F N ⟨_, (N _ hm).1, rfl, c, rfl⟩ (by omega) (by omega) fun r e1 h' F' N' lt => ?_
  have ND : News h₀ L h' D := fun p hp => N' _ (.tail _ (hD p hp))
  obtain ⟨fs, t1, t2, t3⟩ := tups_of hp ND
  refine kat_kind (T := .type "int") t1 (by rw [t2]; exact Nat.succ_pos _) (fun v hv => by obtain ⟨a, t, rfl⟩ := t3 v hv; exact Looks.of_pure rfl) (by decide) ?_
  rw [hl]
  refine kasVal_wp (n := 5) (lt := pairLt ls) (fun s' => s' = { s with heap := h' }) (fun i j C s' hi hj hs hC => ?_) _ _ hS.eq rfl fun s' hs => ?_
  · subst hs
    obtain ⟨a, t, u, n, ea, ma⟩ := pair_at hp hi
    obtain ⟨b, t', u', n', eb, mb⟩ := pair_at hp hj
    unfold kas_ask
    rw [ea, eb]
    exact key_lt (ND _ ma).1 (ND _ mb).1 (hC _ rfl)
  · subst hs
    refine KasFin.intro F' N' (.head fun p hp => Nat.ne_of_lt (lt p hp)) fun h2 c2 F2 N2 => ?_
    dsimp only at N2
    rw [List.map_map] at N2
    exact h r c2 h2 F2 N2 lt

end
section
theorem words_order : True := by
  k_with_none
  (k_with "CJ" => (with_reducible first | assumption | exact cj0 ‹_› | exact cj1 ‹_› | exact cl1 ‹_› | exact cj2 ‹_› | exact cl2 ‹_› | exact cj3 ‹_› | exact cl3 ‹_› | exact cj4 ‹_› | exact cl4 ‹_› | exact cj5 ‹_› | exact cl5 ‹_› | exact cj6 ‹_› | exact cl6 ‹_› | exact cj7 ‹_› | exact cl7 ‹_› | exact cj8 ‹_› | exact cl8 ‹_› | exact cj9 ‹_› | exact cl9 ‹_› | exact cj10 ‹_› | exact cl10 ‹_› | exact cj11 ‹_› | exact cl11 ‹_› | exact cj12 ‹_› | exact cl12 ‹_›))
  (k_with "k_ne" => (((refine neN ?_); (try dsimp only); first | exact Nat.ne_of_gt (by k_extra "CJ") | exact Nat.ne_of_lt (by k_extra "CJ") | k_extra "CJ" | exact Ne.symm (by k_extra "CJ"))))
  (k_with "ktr_room" => (first | exact rm0 ‹_› | exact rm1 ‹_› rfl | exact rm2 ‹_› rfl | exact rm3 ‹_› rfl))
  (k_with "ktr_units" => (first | exact rm0 ‹_› | exact rm1 ‹_› rfl | exact rm2 ‹_› rfl | exact rm3 ‹_› rfl))
  (k_with "k_mem" => (first | exact List.Mem.head _ | (refine' List.Mem.tail _ ?_; k_mem) | (show (_ : Addr × Obj) ∈ (_ : List (Addr × Obj)); with_reducible assumption)))
  (k_with "BINDS" => (first | exact BindsTo.of_eq rfl | exact binds_K (by k_in) rfl (by k_is) rfl rfl rfl | (refine' kp_binds ?zzkx ?zzke; (case zzkx => k_in); (case zzke => exact fun _ => rfl))))
  (k_with "callWith ref" => ((k_here; k_dflt (first | (refine' callWith_K ?zzk1 ?zzk2 ?_; (case zzk1 => k_asm); (case zzk2 => k_is); k_whole) | (refine' callWith_KW ?zzk1 ?zzk2 ?zzk3 ?_; (case zzk1 => k_asm); (case zzk2 => k_is); (case zzk3 => exact rfl); k_whole)))))
  (k_with "call builtin:len" => ((k_here; (with_reducible show wpAny _ _ (call (Value.builtin "len") [Value.ref _]) _ _ _); k_dflt (refine' my_len ?zzk1 ?zzk2 ?zzk3 ?_; (case zzk1 => k_asm); (case zzk2 => k_mem); (case zzk3 => first | assumption | omega); k_whole))))
  (k_with "callWith ref" => ((k_here; k_dflt (refine' callWith_Fn1 ?zzkf ?_; (case zzkf => with_reducible assumption); k_whole))))
  (k_with "And" => (((with_reducible show IsFn _ _ ∧ _); refine ⟨KeyFn.get (by with_reducible assumption) (by k_in) (by k_asm), ?_⟩; try dsimp only [List.nil_append, List.cons_append])))
  (k_with "SAME" => (first | exact Same.refl _ _ | (intros z h9; (simp only [List.contains_cons, List.contains_nil, Bool.or_false, Bool.or_eq_false_iff, beq_eq_false_iff_ne, ne_eq] at h9); simp [h9])))
  (k_with "CompEnd" => ((k_dflt (refine' compEnd_same ?zzF ?zzN ?zzoff ?zzsrc ?_; (case zzF => k_asm); (case zzN => k_asm); (case zzoff => first | assumption | ((simp only [LCg.Off3, and_true]); first | done | assumption)); (case zzsrc => lcg_src)))))
  exact True.intro
abbrev kS : List Str := ["k", "told"]
/-- a list's tokens between two counts -/
def TokIn (lo hi : Nat) (us : List Value) : Prop := ∀ a t, Value.int a t ∈ us → lo ≤ t ∧ t < hi
theorem TokIn.low {lo lo' hi : Nat} {us : List Value} (h : TokIn lo hi us) (hle : lo' ≤ lo) : TokIn lo' hi us := fun a t m => ⟨Nat.le_trans hle (h a t m).1, (h a t m).2⟩
theorem TokIn.mono {lo hi hi' : Nat} {us : List Value} (h : TokIn lo hi us) (hle : hi ≤ hi') : TokIn lo hi' us := fun a t m => ⟨(h a t m).1, Nat.lt_of_lt_of_le (h a t m).2 hle⟩
theorem TokIn.ins {lo hi hi' : Nat} {us : List Value} {k : Int} {t : Nat} (h : TokIn lo hi us) (h1 : lo ≤ t) (h2 : t < hi') (hle : hi ≤ hi') (r : Nat) : TokIn lo hi' (insAt r (.int k t) us) := fun a u m => by
  rcases insAt_mem m with e | m
  · injection e with _ e
    subst e
    exact ⟨h1, h2⟩
  · exact h.mono hle a u m
/-- what stands between the turns of the order's loop -/
def OrdJ (b : Bool) (ls : List Int) (lo : Nat) (pl ol cell : Addr) (co : Obj) (qual : Str) (D₀ : List (Addr × Obj)) (i tk : Nat) (nl : List (Addr × Obj)) : Prop :=
  ∃ (ov pv : List Value) (no np : Nat) (ps : Array Value) (D : List (Addr × Obj)), nl = (pl, listOf pv.toArray np) :: (ol, listOf ov.toArray no) :: (cell, co) :: (172, tabObj ps) :: D ∧
    IntsAre ov (ordGo b ls i) ∧ TokIn lo tk ov ∧ PairsIn D pv (prGo b ls i) ∧ TabIn qual ps D ∧ (∀ p ∈ D₀, p ∈ D) ∧ (∀ p ∈ D, p.1 ≠ pl) ∧ (∀ p ∈ D, p.1 ≠ ol) ∧ (∀ p ∈ D, p.1 ≠ cell) ∧ (∀ p ∈ D, p.1 ≠ 172)
theorem TokIn.nil (lo hi : Nat) : TokIn lo hi [] := fun _ _ h => nomatch h
theorem order_at {prog : Program} {w : World} {A : Around} {E : Value → Shared → Prop} {s : Shared} {env : Env} {h₀ : Heap} {target : PySem.Expr} {body orelse : List Stmt} {Q : Flow → Shared → Prop} (b : Bool) {pl ol cell : Addr} {co : Obj} {np no : Nat} {ps : Array Value} {D₀ : List (Addr × Obj)} {ls : List Int} {qual : Str} {m : Str → Option Value} {t : Tok}
    (hh : A.handled = none) (hgo : ∀ it v, letOwnedTupleGo target it v = pure ()) (F : Fr h₀ env.locals s.heap m) (N : News h₀ env.locals s.heap ((pl, listOf #[] np) :: (ol, listOf #[] no) :: (cell, co) :: (172, tabObj ps) :: D₀))
    (TB : TabIn qual ps D₀) (a1 : ∀ p ∈ D₀, p.1 ≠ pl) (a2 : ∀ p ∈ D₀, p.1 ≠ ol) (a3 : ∀ p ∈ D₀, p.1 ≠ cell) (a4 : ∀ p ∈ D₀, p.1 ≠ 172) (hcell : 172 < cell)
    (step : ∀ (i t0 : Nat) (I : Addr) (o : Obj) (z : Str → Option Value) (h₁ : Heap) (ov pv : List Value) (no np : Nat) (ps : Array Value) (D : List (Addr × Obj)), i < 5 → s.toks ≤ t0 → IntsAre ov (ordGo b ls i) → TokIn s.toks t0 ov → PairsIn D pv (prGo b ls i) → TabIn qual ps D → (∀ p ∈ D₀, p ∈ D) →
      (∀ p ∈ D, p.1 ≠ pl) → (∀ p ∈ D, p.1 ≠ ol) → (∀ p ∈ D, p.1 ≠ cell) → (∀ p ∈ D, p.1 ≠ 172) → (∀ p ∈ D, p.1 ≠ I) → pl < I → ol < I → cell < I → 172 < I → 172 < cell →
      Fr h₀ env.locals h₁ (fun y => if kS.contains y then z y else m y) → News h₀ env.locals h₁ ((I, o) :: (pl, listOf pv.toArray np) :: (ol, listOf ov.toArray no) :: (cell, co) :: (172, tabObj ps) :: D) →
      wpAny (model prog w) A (assign target env (.int i t0)) (fun _ s₃ => wpAny (model prog w) A (execs body env) (StepT h₀ env.locals [I] [(I, o)] [] (fun tk m' nl => Same kS m m' ∧ OrdJ b ls s.toks pl ol cell co qual D₀ (i + 1) tk nl) { s with heap := h₁, toks := t0 + 1 } Q) E s₃) E { s with heap := h₁, toks := t0 + 1 })
    (fin : ∀ (h' : Heap) (tk : Nat) (z : Str → Option Value) (ov pv : List Value) (no np : Nat) (ps : Array Value) (D : List (Addr × Obj)), s.toks ≤ tk → IntsAre ov (ordGo b ls 5) → TokIn s.toks tk ov → PairsIn D pv (prGo b ls 5) → TabIn qual ps D → (∀ p ∈ D₀, p ∈ D) →
      (∀ p ∈ D, p.1 ≠ pl) → (∀ p ∈ D, p.1 ≠ ol) → (∀ p ∈ D, p.1 ≠ cell) → (∀ p ∈ D, p.1 ≠ 172) → 172 < cell →
      Fr h₀ env.locals h' (fun y => if kS.contains y then z y else m y) → News h₀ env.locals h' ((pl, listOf pv.toArray np) :: (ol, listOf ov.toArray no) :: (cell, co) :: (172, tabObj ps) :: D) → wpAny (model prog w) A (execs orelse env) Q E { s with heap := h', toks := tk })
    (hE : PassesOwn (model prog w) A env E := by passes_own) :
    wpAny (model prog w) A (call (.type "range") [.int 5 t]) (fun xv s₁ => LoopAt prog w A env target body orelse Q E xv s₁) E s := by
  refine LoopAt.rangeCall (n := 5) (fun i tk m' nl => Same kS m m' ∧ OrdJ b ls s.toks pl ol cell co qual D₀ i tk nl) hh hgo (by decide +kernel) F N
    ⟨Same.refl _ _, [], [], no, np, ps, D₀, rfl, IntsAre.nil, TokIn.nil _ _, All2.nil, TB, fun _ h => h, a1, a2, a3, a4⟩ ?_ ?_ ?_ hE
  · rintro i t0 I o m₁ nl h₁ hi ⟨hS, ov, pv, no, np, ps, D, rfl, x1, x2, x3, x4, x5, x6, x7, x8, x9⟩ hle hI hlt F₁ N₁
    rw [hS.eq] at F₁
    exact step i t0 I o m₁ h₁ ov pv no np ps D hi hle x1 x2 x3 x4 x5 x6 x7 x8 x9 (fun p hp => hI p (.tail _ (.tail _ (.tail _ (.tail _ hp))))) (hlt _ (.head _)) (hlt _ (.tail _ (.head _))) (hlt _ (.tail _ (.tail _ (.head _)))) (hlt _ (.tail _ (.tail _ (.tail _ (.head _))))) hcell F₁ N₁
  · rintro h' tk m' nl ⟨hS, ov, pv, no, np, ps, D, rfl, x1, x2, x3, x4, x5, x6, x7, x8, x9⟩ hle F' N'
    rw [hS.eq] at F'
    exact fin h' tk m' ov pv no np ps D hle x1 x2 x3 x4 x5 x6 x7 x8 x9 hcell F' N'
  · rintro i t t' m' nl ⟨hS, ov, pv, no, np, ps, D, rfl, x1, x2, x3⟩ hle
    exact ⟨hS, ov, pv, no, np, ps, D, rfl, x1, x2.mono hle, x3⟩
theorem pairs_five {D : List (Addr × Obj)} {pv : List Value} {b : Bool} {ls : List Int} {G : Prop} (x3 : PairsIn D pv (prGo b ls 5))
    (f : ∀ (a0 : Addr) (x0 y0 : Int) (t0 u0 : Tok) (n0 : Nat) (a1 : Addr) (x1 y1 : Int) (t1 u1 : Tok) (n1 : Nat) (a2 : Addr) (x2 y2 : Int) (t2 u2 : Tok) (n2 : Nat) (a3 : Addr) (x3 y3 : Int) (t3 u3 : Tok) (n3 : Nat) (a4 : Addr) (x4 y4 : Int) (t4 u4 : Tok) (n4 : Nat), (a0, tupOf [.int x0 t0, .int y0 u0] n0) ∈ D → (a1, tupOf [.int x1 t1, .int y1 u1] n1) ∈ D → (a2, tupOf [.int x2 t2, .int y2 u2] n2) ∈ D → (a3, tupOf [.int x3 t3, .int y3 u3] n3) ∈ D → (a4, tupOf [.int x4 t4, .int y4 u4] n4) ∈ D → pv = [.ref a0, .ref a1, .ref a2, .ref a3, .ref a4] → prGo b ls 5 = [(x0, y0), (x1, y1), (x2, y2), (x3, y3), (x4, y4)] → G) : G := by
  obtain ⟨p0, pv1, q0, qs1, rfl, hq0, r0, x31, e1⟩ := All2.uncons x3 (prGo_length b ls 5)
  obtain ⟨p1, pv2, q1, qs2, rfl, rfl, r1, x32, e2⟩ := All2.uncons x31 e1
  obtain ⟨p2, pv3, q2, qs3, rfl, rfl, r2, x33, e3⟩ := All2.uncons x32 e2
  obtain ⟨p3, pv4, q3, qs4, rfl, rfl, r3, x34, e4⟩ := All2.uncons x33 e3
  obtain ⟨p4, pv5, q4, qs5, rfl, rfl, r4, x35, e5⟩ := All2.uncons x34 e4
  obtain rfl := List.eq_nil_of_length_eq_zero e5
  obtain rfl := List.eq_nil_of_length_eq_zero (x35.length.trans e5)
  clear x3 x31 x32 x33 x34 x35 e1 e2 e3 e4 e5
  cases r0; cases r1; cases r2; cases r3; cases r4
  exact f _ _ _ _ _ _ _ _ _ _ _ _ _ _ _ _ _ _ _ _ _ _ _ _ _ _ _ _ _ _ (by assumption) (by assumption) (by assumption) (by assumption) (by assumption) rfl hq0
theorem ord_end {h₀ h' : Heap} {L : Addr} {e1 e2 ef : Addr × Obj} {T c9 I pl ol cell : Addr} {tup oc o co : Obj} {b : Bool} {ls : List Int} {lo i tk no np : Nat} {qual : Str} {ps : Array Value} {ov pv : List Value} {D D₀ : List (Addr × Obj)} {m m' : Str → Option Value} {s₁ : Shared} {Q : Flow → Shared → Prop}
    (F : Fr h₀ L h' m') (N : News h₀ L h' (e1 :: e2 :: (T, tup) :: ef :: (c9, oc) :: (I, o) :: (pl, listOf pv.toArray np) :: (ol, listOf ov.toArray no) :: (cell, co) :: (172, tabObj ps) :: D)) (hS : Same kS m m')
    (x1 : IntsAre ov (ordGo b ls (i + 1))) (x2 : s₁.toks ≤ tk → TokIn lo tk ov) (x3 : PairsIn ((T, tup) :: D) pv (prGo b ls (i + 1))) (x4 : TabIn qual ps ((c9, oc) :: D)) (x5 : ∀ p ∈ D₀, p ∈ D)
    (y1 : ∀ p ∈ D, p.1 ≠ pl) (y2 : ∀ p ∈ D, p.1 ≠ ol) (y3 : ∀ p ∈ D, p.1 ≠ cell) (y4 : ∀ p ∈ D, p.1 ≠ 172) (y5 : ∀ p ∈ D, p.1 ≠ I) (q1 : c9 ≠ pl) (q2 : c9 ≠ ol) (q3 : c9 ≠ cell) (q4 : c9 ≠ 172) (q5 : c9 ≠ I)
    (r1 : T ≠ pl) (r2 : T ≠ ol) (r3 : T ≠ cell) (r4 : T ≠ 172) (r5 : T ≠ I) (z1 : pl ≠ I) (z2 : ol ≠ I) (z3 : cell ≠ I) (z4 : (172 : Addr) ≠ I) :
    StepT h₀ L [I] [(I, o)] [] (fun tk m' nl => Same kS m m' ∧ OrdJ b ls lo pl ol cell co qual D₀ (i + 1) tk nl) s₁ Q .next { s₁ with heap := h', toks := tk } := by
  have two : ∀ (P : Addr × Obj → Prop), P (T, tup) → P (c9, oc) → (∀ p ∈ D, P p) → ∀ p ∈ (T, tup) :: (c9, oc) :: D, P p := fun P a b c => List.forall_mem_cons.mpr ⟨a, List.forall_mem_cons.mpr ⟨b, c⟩⟩
  refine StepT.next (ns := (pl, listOf pv.toArray np) :: (ol, listOf ov.toArray no) :: (cell, co) :: (172, tabObj ps) :: (T, tup) :: (c9, oc) :: D) F (news_sub N ?_) ?_ (fun p hp => nomatch hp) fun hle => ⟨hS, ov, pv, no, np, ps, (T, tup) :: (c9, oc) :: D, rfl, x1, x2 hle, x3.mono (List.forall_mem_cons.mpr ⟨.head _, fun p hp => .tail _ (.tail _ hp)⟩), x4.mono fun p hp => .tail _ hp, fun p hp => .tail _ (.tail _ (x5 p hp)), two _ r1 q1 y1, two _ r2 q2 y2, two _ r3 q3 y3, two _ r4 q4 y4⟩
  · intro p hp
    simp only [List.mem_cons, List.cons_append, List.nil_append] at hp ⊢
    rcases hp with h | h | h | h | h | h | h | h <;> simp [h]
  · intro p hp q
    have q := List.mem_singleton.mp q
    simp only [List.mem_cons] at hp
    rcases hp with rfl | rfl | rfl | rfl | rfl | rfl | hp
    · exact z1 q
    · exact z2 q
    · exact z3 q
    · exact z4 q
    · exact r5 q
    · exact q5 q
    · exact y5 _ hp q
theorem neLt {d : Addr} {l : List (Addr × Obj)} (h : AllLt d l) : ∀ p ∈ l, p.1 ≠ d := by
  induction l with
  | nil => intro p hp; exact nomatch hp
  | cons q r ih =>
    intro p hp
    rcases List.mem_cons.mp hp with rfl | hp
    · exact Nat.ne_of_lt h.1
    · exact ih h.2 p hp
theorem words_order_1 : True := by
  (k_with "k_all" => (with_reducible assumption))
  (k_with "ENTERLAM" => (((refine wpAny_call ?_); k_dflt (refine' kla_code ?zzk1 ?zzk2 ?zzk3 ?zzk4 ?zzk5 ?zzkA ?zzkF ?zzkK ?zzk6 ?zzk7 ?zzk8 ?zzk9 ?zzkB ?_ ?zzc2 ?zzc3 ?zzc4 ?zzc5; (case zzkA => exact rfl); (case zzkF => exact rfl); (case zzk1 => k_asm); (case zzk2 => k_asm); (case zzk3 => k_asm); (case zzk4 => k_asm); (case zzk5 => k_asm); (case zzkK => (rename (Scope.kind _ = ScopeKind.function) => hk9; exact hk9)); (case zzk6 => k_mem); (case zzk7 => exact codeRec_news (by k_asm) (by k_mem) (by assumption) (by assumption)); (case zzk8 => k_room); (case zzk9 => exact rfl); (case zzc5 => decide); (case zzkB => exact locs rfl); (case zzc2 => exact rfl); (case zzc3 => exact rfl); (case zzc4 => exact rfl); k_whole); (first | (k_extra "EPSENT"; refine no_implicit_lambda% (all_eps3 (i := by k_extra "NE9") ?_); generalize pj0 _ = g', pj1 _ = L', pj2 _ = h'; intro FG' F' N' B' X' T') | intro g' L' h' FG' F' N' B' X' T'); (try dsimp only); (try k_lift B'); (try k_fold))))
  (k_with "SUBL" => ((intros p9 h9; (repeat (first | exact h9 | refine List.Mem.tail _ ?_)))))
  (k_with "subscriptTail Name BinOp ref int" => ((k_here; (with_reducible show wpAny _ _ (subscriptTail _ _ (Value.ref _) (Value.int _ _)) _ _ _); (rename List.length _ = 5 => h57); k_dflt (refine' my_itemI ?zzk1 ?zzk2 ?zzki ?zzk4 ?zzk5 ?zzk6 ?_; (case zzk1 => k_asm); (case zzk2 => k_mem); (case zzki => with_reducible assumption); (case zzk4 => omega); (case zzk5 => (rw [h57]; omega)); (case zzk6 => (rw [h57]; omega))); intro t9)))
  (k_with "exec For Name Call cons nil" => ((k_here; k_dflt (refine' For_at ?_); k_whole)))
  (k_with "execs cons" => (((first | (with_reducible show wpAny _ _ (execs (Stmt.For _ _ _ _ _ :: _) _) _ _ _) | (with_reducible show wpAny _ _ (execs (Stmt.Assign _ (PySem.Expr.List _ _) _ :: _) _) _ _ _)); (with_reducible refine wpAny_execs_cons ?_); try dsimp only)))
  (k_with "execs cons" => (((with_reducible show wpAny _ _ (execs (Stmt.Return _ _ :: _) _) _ _ _); (with_reducible refine wpAny_grow ?_); (with_reducible refine wpAny_execs_cons ?_); try dsimp only)))
  exact True.intro
theorem rest_ok {D rest : List (Addr × Obj)} (hR : ∀ q ∈ rest, q.1 ∉ D.map (·.1)) : ∀ q ∈ rest, q ∈ D ++ rest ∧ q.1 ∉ D.map (·.1) := fun q hq => ⟨List.mem_append_right _ hq, hR q hq⟩
theorem words_order_2 : True := by
  (k_with "ENTERR" => ((refine wpAny_call ?_; k_dflt (refine' code_subC ?zzk1 ?zzk2 ?zzk3 ?zzk4 ?zzk5 ?zzkD ?zzkR ?zzkA ?zzkF ?zzkK ?zzk6 ?zzk7 ?zzk8 ?zzk9 ?zzkB ?zzkN ?_ ?zzc2 ?zzc3 ?zzc4; (case zzkA => exact rfl); (case zzkF => exact rfl); (case zzkK => assumption); (case zzk1 => k_asm); (case zzk2 => k_asm); (case zzk3 => k_asm); (case zzk4 => k_asm); (case zzk5 => k_asm); (case zzkD => exact fun _ hq => List.mem_append_left _ hq); (case zzkR => exact rest_ok (by assumption)); (case zzk6 => k_is); (case zzk7 => k_is); (case zzk8 => ktr_room); (case zzk9 => walk_at "BINDS"); (case zzkB => exact rfl); (case zzkN => decide +kernel); (case zzc2 => exact rfl); (case zzc3 => exact rfl); (case zzc4 => exact rfl); k_whole; (first | (k_extra "EPSENT"; refine no_implicit_lambda% (all_eps5 (i := by k_extra "NE9") ?_); generalize pj0 _ = g', pj1 _ = L', pj2 _ = h', pj3 _ = tk', pj4 _ = cells'; intro FG' F' N' Y' B' X' T' _ _ hg9) | intro g' L' h' tk' cells' FG' F' N' Y' B' X' T' _ _ hg9); k_cells Y'; (try simp only [List.cons_append, List.nil_append, List.append_nil] at N'); (try ((rename CodeHd _ _ _ => hC8); (have hC9 := hC8.keeps FG'.keep))); (try dsimp only); (try k_lift B'); (try k_fold)))))
  exact True.intro
theorem c_orderR {prog : Program} {w : World} {loose : List Str} {mean : ExcName → Option Value} {mg mb : Str → Option Value}
    {dp un : Nat} {gd : Option (List Code)} {cn : Str} {cs : Scope} {a : Addr} {ccd : Value} {cl : List (Str × Addr)} {outer : List Env} {A₀ : Around} {base h₀ : Heap} {L : Addr} {m : Str → Option Value} {s : Shared} {Q E : Value → Shared → Prop}
    {l : Addr} {n : Nat} {us : List Value} {ls : List Int} {ps : Array Value} {D₀ rest : List (Addr × Obj)}
    (B : Below A₀ base outer h₀) (F : Fr h₀ L s.heap m) (X : (hd.heap_39 w.params).In h₀) (N : News h₀ L s.heap ((172, tabObj ps) :: D₀)) (NR : News h₀ L s.heap rest) (hR : ∀ q ∈ rest, q.1 ∉ ((172, tabObj ps) :: D₀).map (·.1)) (T : Top topProg loose mean mg mb h₀) (hk : cs.kind = .function)
    (hdp : dp + 10 < recursionLimit) (hun : un + 300 < cLine) (hC : CodeHd h₀ 174 172) (TB : TabIn "_law_order.<locals>.<lambda>" ps D₀) (a4 : ∀ p ∈ D₀, p.1 ≠ 172) (hl : (l, listOf us.toArray n) ∈ D₀) (hi : IntsAre us ls) (h5 : ls.length = 5)
    (hok : OrdOk true ls)
    (hret : ∀ r ov no ps' D h' tk', Fr h₀ L h' m → News h₀ L h' ((r, listOf (List.toArray ov) no) :: (172, tabObj ps') :: D) → News h₀ L h' rest → (∀ q ∈ rest, ∀ p ∈ (r, listOf (List.toArray ov) no) :: D, q.1 ≠ p.1) → (∀ p ∈ D₀, p ∈ D) → (∀ p ∈ D, p.1 ≠ 172) → TabIn "_law_order.<locals>.<lambda>" ps' D → IntsAre ov (ordGo true ls 5) → TokIn s.toks tk' ov → Q (.ref r) { s with heap := h', toks := tk' }) :
    wpAny (model prog w) (ktrTop dp un gd cn cs L a ccd cl outer) (call (.ref 175) [.ref l, .bool true]) Q E s := by
  k_with "EPSON" => skip
  k_with "NE9" => repeat (with_reducible first | exact neSh | exact neAr | exact neEx | exact neWo | refine neP ?_ ?_ | infer_instance)
  k_with "RangeRest" => first
    | ((with_unfolding_all refine RangeRest.succ ?_); intro t' h' tk' F' N')
    | ((with_unfolding_all refine RangeRest.zero ?_); intro h' tk' F' N')
  k_with "CompRest" => first
    | ((with_unfolding_all refine LCg.CompRest.succ ?_); (first | (k_extra "EPSON"; refine no_implicit_lambda% (all_eps10 (i := by k_extra "NE9") ?_); generalize pj0 _ = v', pj1 _ = I', pj2 _ = oI', pj3 _ = C', pj4 _ = oC', pj5 _ = D', pj6 _ = m', pj7 _ = h', pj8 _ = tk', pj9 _ = E'; intro hv' hC' hx' F' N' off' ne') | intro v' I' oI' C' oC' D' m' h' tk' E' hv' hC' hx' F' N' off' ne'); (first | lcg_open hv' | (refine ex_elim hv' ?_; clear hv'; intro t9' hv9'; subst hv9')); (try simp only [LCg.Off3, and_true] at off'))
    | with_unfolding_all refine LCg.CompRest.zero ?_
  k_with "EPS1" => (refine no_implicit_lambda% (all_eps (i := by k_extra "NE9") ?_); generalize eps _ _ = xE9)
  k_with "EPSCELLS" => first
    | (have hY := PyProof.Rows.CellsAre.one Y'; refine ex_elim hY ?_; clear hY; intro o' hE'; obtain ⟨hE', d1'⟩ := hE'; subst hE'; clear Y')
    | (have hY := PyProof.Rows.CellsAre.two Y'; refine ex_elim hY ?_; clear hY; intro o' hY; refine ex_elim hY ?_; clear hY; intro o2' hY; obtain ⟨hE', d1', d2'⟩ := hY; subst hE'; clear Y')
    | (have hY := PyProof.Rows.CellsAre.three Y'; refine ex_elim hY ?_; clear hY; intro o' hY; refine ex_elim hY ?_; clear hY; intro o2' hY; refine ex_elim hY ?_; clear hY; intro o3' hY; obtain ⟨hE', d1', d2', d3'⟩ := hY; subst hE'; clear Y')
  k_with "EPSENT" => skip
  revert B F X N NR hR T hk hdp hun hC TB a4 hl hi h5 hok hret
  revert prog w loose mean mg mb dp un gd cn cs a ccd cl outer A₀ base h₀ L m s Q E l n us ls ps D₀ rest
  refine no_implicit_lambda% (all_eps24 (i := by k_extra "NE9") ?_); generalize pj0 _ = prog, pj1 _ = w, pj2 _ = loose, pj3 _ = mean, pj4 _ = mg, pj5 _ = mb, pj6 _ = dp, pj7 _ = un, pj8 _ = gd, pj9 _ = cn, pj10 _ = cs, pj11 _ = a, pj12 _ = ccd, pj13 _ = cl, pj14 _ = outer, pj15 _ = A₀, pj16 _ = base, pj17 _ = h₀, pj18 _ = L, pj19 _ = m, pj20 _ = s, pj21 _ = Q, pj22 _ = E, pj23 _ = l; refine no_implicit_lambda% (all_eps6 (i := by k_extra "NE9") ?_); generalize pj0 _ = n, pj1 _ = us, pj2 _ = ls, pj3 _ = ps, pj4 _ = D₀, pj5 _ = rest
  intros B F X N NR hR T hk hdp hun hC TB a4 hl hi h5 hok hret
  (k_with "call type:range" => ((rename Fr _ _ _ _ => lF'); (rename News _ _ _ _ => lN'); k_dflt (refine' order_at true (ls := ls) ?kh ?kg lF' lN' TB ?ka ?kb ?kc ?kd ?ke ?step ?fin; (case kh => exact rfl); (case kg => exact fun _ _ => rfl); (case ka => (obtain ⟨_, _, _, hA⟩ := ‹_ ∧ _ ∧ _ ∧ AllLt _ D₀›; exact neLt hA)); (case kb => (obtain ⟨_, _, hA⟩ := ‹_ ∧ _ ∧ AllLt _ D₀›; exact neLt hA)); (case kc => (have hB := ‹∀ q ∈ (172, tabObj ps) :: D₀, q.1 < _›; exact fun p hp => Nat.ne_of_lt (Nat.lt_succ_of_lt (hB p (.tail _ hp))))); (case kd => exact a4); (case ke => (have hB := ‹∀ q ∈ (172, tabObj ps) :: D₀, q.1 < _›; exact Nat.lt_succ_of_lt (hB _ (.head _))))); (case' step => (clear lF' lN'; (first | (k_extra "EPSON"; refine no_implicit_lambda% (all_eps12 (i := by k_extra "NE9") ?_); generalize pj0 _ = i9, pj1 _ = t9, pj2 _ = I9, pj3 _ = o9, pj4 _ = z9, pj5 _ = h9, pj6 _ = ov9, pj7 _ = pv9, pj8 _ = no9, pj9 _ = np9, pj10 _ = ps9, pj11 _ = D9; intro hi9 ht9 x1 x2 x3 x4 x5 y1 y2 y3 y4 y5 z1 z2 z3 z4 z5 lF9 lN9) | intro i9 t9 I9 o9 z9 h9 ov9 pv9 no9 np9 ps9 D9 hi9 ht9 x1 x2 x3 x4 x5 y1 y2 y3 y4 y5 z1 z2 z3 z4 z5 lF9 lN9); (have hl9 := x5 _ hl); k_lt2 z1; k_lt2 z2; k_lt2 z3; k_lt2 z4; k_lt2 z5; (try dsimp only); (try k_fold))); (case' fin => (clear lF' lN'; (first | (k_extra "EPSON"; refine no_implicit_lambda% (all_eps9 (i := by k_extra "NE9") ?_); generalize pj0 _ = h9, pj1 _ = tk9, pj2 _ = z9, pj3 _ = ov9, pj4 _ = pv9, pj5 _ = no9, pj6 _ = np9, pj7 _ = ps9, pj8 _ = D9; intro ht9 x1 x2 x3 x4 x5 y1 y2 y3 y4 z5 lF9 lN9) | intro h9 tk9 z9 ov9 pv9 no9 np9 ps9 D9 ht9 x1 x2 x3 x4 x5 y1 y2 y3 y4 z5 lF9 lN9); k_lt2 z5; (refine pairs_five x3 ?_); (first | (k_extra "EPSON"; refine no_implicit_lambda% (all_eps24 (i := by k_extra "NE9") ?_); generalize pj0 _ = ka0, pj1 _ = kx0, pj2 _ = ky0, pj3 _ = kt0, pj4 _ = ku0, pj5 _ = kn0, pj6 _ = ka1, pj7 _ = kx1, pj8 _ = ky1, pj9 _ = kt1, pj10 _ = ku1, pj11 _ = kn1, pj12 _ = ka2, pj13 _ = kx2, pj14 _ = ky2, pj15 _ = kt2, pj16 _ = ku2, pj17 _ = kn2, pj18 _ = ka3, pj19 _ = kx3, pj20 _ = ky3, pj21 _ = kt3, pj22 _ = ku3, pj23 _ = kn3; refine no_implicit_lambda% (all_eps6 (i := by k_extra "NE9") ?_); generalize pj0 _ = ka4, pj1 _ = kx4, pj2 _ = ky4, pj3 _ = kt4, pj4 _ = ku4, pj5 _ = kn4; intro m0 m1 m2 m3 m4 hpv hq0) | intro ka0 kx0 ky0 kt0 ku0 kn0 ka1 kx1 ky1 kt1 ku1 kn1 ka2 kx2 ky2 kt2 ku2 kn2 ka3 kx3 ky3 kt3 ku3 kn3 ka4 kx4 ky4 kt4 ku4 kn4 m0 m1 m2 m3 m4 hpv hq0); subst hpv; (have ho := hok.eq); (rw [hq0] at ho); (replace ho : Sealed _ := ⟨ho⟩); (clear hq0 x3); (try dsimp only); (try k_fold)))))
  (k_with "eval Lambda" => (k_dflt ((refine' kla_eval ?d0 ?_; (case d0 => exact rfl)); refine' lam_any (D := D9) ?F ?N ?T ?C ?cd ?U ?TB ?hD ?cl ?_; (case F => k_asm); (case N => k_asm); (case T => k_asm); (case C => assumption); (case cd => exact rfl); (case U => k_updF); (case TB => assumption); (case hD => walk_at "SUBL"); (case cl => exact rfl); k_whole); (first | (k_extra "EPSON"; refine no_implicit_lambda% (all_eps9 (i := by k_extra "NE9") ?_); generalize pj0 _ = f9, pj1 _ = c9, pj2 _ = oc9, pj3 _ = vs9, pj4 _ = tc9, pj5 _ = ct9, pj6 _ = ps8, pj7 _ = h9, pj8 _ = tk9; intro lF8 lN8 d1 d2 l1 l2 hc9 TB9) | intro f9 c9 oc9 vs9 tc9 ct9 ps8 h9 tk9 lF8 lN8 d1 d2 l1 l2 hc9 TB9); (try dsimp only at lN8); (try k_lt l1); (have q1 := lam_apart hc9 y1 (by k_mem)); (have q2 := lam_apart hc9 y2 (by k_mem)); (have q3 := lam_apart hc9 y3 (by k_mem)); (have q4 := lam_apart hc9 y4 (by k_mem)); (have q5 := lam_apart hc9 y5 (by k_mem))))
  (k_with "call ref" => (first
    | (k_dflt (refine' iR_lam (ls := ls) ?k1 ?k2 ?k3 ?k4 ?k5 ?kK ?kd ?ku ?kU x1 ?kr ?kn ?k0 ?k6 ?kf ?kL ?_; (case k1 => k_asm); (case k2 => k_asm); (case k3 => k_asm); (case k4 => k_asm); (case k5 => k_asm); (case kU => k_updF); (case kr => exact ordGo_range _ _ _ (by omega)); (case kn => (rw [ordGo_length]; omega)); (case k0 => omega); (case k6 => omega); (case kf => exact fun _ _ _ _ N => ⟨⟨_, _, (N _ (.head _)).1, rfl⟩⟩); (case kK => exact rfl); (case kd => ktr_room); (case ku => ktr_units); (case kL => (intro o8 t8 hb1 hb2 dp8 un8 gd8 cn8 cs8 a8 ccd8 cl8 outer8 A8 base8 h08 L8 m8 s8 Q8 E8 B8 F8 X8 N8 T8 hk8 hd8 hu8 hr8; walk_at "ENTERLAM"; k_steps; exact hr8 _ _ _ (by assumption) (by assumption))); k_whole); (first | (k_extra "EPSON"; refine no_implicit_lambda% (all_eps2 (i := by k_extra "NE9") ?_); generalize pj0 _ = h8, pj1 _ = tk8; intro F8 N8) | intro h8 tk8 F8 N8); (try dsimp only); (try k_fold))
    | (k_dflt (refine' iR_pair (D := D9) ?k1 ?k2 ?k3 ?k4 ?k5 ?kK ?kd ?ku ?kU x3 ?kD ?kn ?kx ?_; (case k1 => k_asm); (case k2 => k_asm); (case k3 => k_asm); (case k4 => k_asm); (case k5 => k_asm); (case kU => k_updF); (case kD => walk_at "SUBL"); (case kn => (rw [prGo_length]; omega)); (case kx => k_mem); (case kK => exact rfl); (case kd => ktr_room); (case ku => ktr_units); k_whole); (first | (k_extra "EPSON"; refine no_implicit_lambda% (all_eps2 (i := by k_extra "NE9") ?_); generalize pj0 _ = h8, pj1 _ = tk8; intro F8 N8) | intro h8 tk8 F8 N8); (try dsimp only); (try k_fold))))
  have NA9 := news_app N NR
  walk_at "ENTERR"
  k_steps
  rotate_left 2
  · (rename Fr _ _ _ _ => lF8); (rename News _ _ _ _ => lN8)
    refine ord_end lF8 lN8 (by walk_at "SAME") (by rw [ordGo_R]; exact ints_ins x1 _ _ _) (fun hle => TokIn.ins x2 ?_ ?_ ?_ _) (by rw [prGo_R]; exact All2.ins (PairsIn.mono (fun p hp => .tail _ hp) x3) (.mk (.head _)) _) TB9 x5 y1 y2 y3 y4 y5 q1 q2 q3 q4 q5 ?_ ?_ ?_ ?_ ?_ ?_ ?_ ?_ ?_
    all_goals first | k_ne | ((try dsimp only at *); omega)
  · (rename News _ _ _ _ => lN8)
    revert lN8
    (rename News _ _ _ _ => lN7)
    intro lN8 hNR9
    exact hret _ ov9 no9 ps9 D9 _ _ (by assumption) (news_sub lN8 (List.forall_mem_cons.mpr ⟨by k_mem, List.forall_mem_cons.mpr ⟨by k_mem, by walk_at "SUBL"⟩⟩)) hNR9 (fun q hq => List.forall_mem_cons.mpr ⟨news_apart lN7 (by assumption) q hq (_, listOf (List.toArray ov9) no9) (by k_mem), fun p hp => news_apart lN7 (by assumption) q hq p (by have hp9 := hp; repeat (first | exact hp9 | refine List.Mem.tail _ ?_))⟩) x5 y4 x4 x1 (TokIn.low (TokIn.mono x2 (by omega)) (by (try dsimp only); omega))
  · exact absurd ho.eq (by assumption)

end
section
theorem words_orderL : True := by
  k_with_none
  (k_with "CJ" => (with_reducible first | assumption | exact cj0 ‹_› | exact cj1 ‹_› | exact cl1 ‹_› | exact cj2 ‹_› | exact cl2 ‹_› | exact cj3 ‹_› | exact cl3 ‹_› | exact cj4 ‹_› | exact cl4 ‹_› | exact cj5 ‹_› | exact cl5 ‹_› | exact cj6 ‹_› | exact cl6 ‹_› | exact cj7 ‹_› | exact cl7 ‹_› | exact cj8 ‹_› | exact cl8 ‹_› | exact cj9 ‹_› | exact cl9 ‹_› | exact cj10 ‹_› | exact cl10 ‹_› | exact cj11 ‹_› | exact cl11 ‹_› | exact cj12 ‹_› | exact cl12 ‹_›))
  (k_with "k_ne" => (((refine neN ?_); (try dsimp only); first | exact Nat.ne_of_gt (by k_extra "CJ") | exact Nat.ne_of_lt (by k_extra "CJ") | k_extra "CJ" | exact Ne.symm (by k_extra "CJ"))))
  (k_with "ktr_room" => (first | exact rm0 ‹_› | exact rm1 ‹_› rfl | exact rm2 ‹_› rfl | exact rm3 ‹_› rfl))
  (k_with "ktr_units" => (first | exact rm0 ‹_› | exact rm1 ‹_› rfl | exact rm2 ‹_› rfl | exact rm3 ‹_› rfl))
  (k_with "k_mem" => (first | exact List.Mem.head _ | (refine' List.Mem.tail _ ?_; k_mem) | (show (_ : Addr × Obj) ∈ (_ : List (Addr × Obj)); with_reducible assumption)))
  (k_with "BINDS" => (first | exact BindsTo.of_eq rfl | exact binds_K (by k_in) rfl (by k_is) rfl rfl rfl | (refine' kp_binds ?zzkx ?zzke; (case zzkx => k_in); (case zzke => exact fun _ => rfl))))
  (k_with "callWith ref" => ((k_here; k_dflt (first | (refine' callWith_K ?zzk1 ?zzk2 ?_; (case zzk1 => k_asm); (case zzk2 => k_is); k_whole) | (refine' callWith_KW ?zzk1 ?zzk2 ?zzk3 ?_; (case zzk1 => k_asm); (case zzk2 => k_is); (case zzk3 => exact rfl); k_whole)))))
  (k_with "call builtin:len" => ((k_here; (with_reducible show wpAny _ _ (call (Value.builtin "len") [Value.ref _]) _ _ _); k_dflt (refine' my_len ?zzk1 ?zzk2 ?zzk3 ?_; (case zzk1 => k_asm); (case zzk2 => k_mem); (case zzk3 => first | assumption | omega); k_whole))))
  (k_with "callWith ref" => ((k_here; k_dflt (refine' callWith_Fn1 ?zzkf ?_; (case zzkf => with_reducible assumption); k_whole))))
  (k_with "And" => (((with_reducible show IsFn _ _ ∧ _); refine ⟨KeyFn.get (by with_reducible assumption) (by k_in) (by k_asm), ?_⟩; try dsimp only [List.nil_append, List.cons_append])))
  (k_with "SAME" => (first | exact Same.refl _ _ | (intros z h9; (simp only [List.contains_cons, List.contains_nil, Bool.or_false, Bool.or_eq_false_iff, beq_eq_false_iff_ne, ne_eq] at h9); simp [h9])))
  (k_with "CompEnd" => ((k_dflt (refine' compEnd_same ?zzF ?zzN ?zzoff ?zzsrc ?_; (case zzF => k_asm); (case zzN => k_asm); (case zzoff => first | assumption | ((simp only [LCg.Off3, and_true]); first | done | assumption)); (case zzsrc => lcg_src)))))
  exact True.intro
theorem words_orderL_1 : True := by
  (k_with "k_all" => (with_reducible assumption))
  (k_with "ENTERLAM" => (((refine wpAny_call ?_); k_dflt (refine' kla_code ?zzk1 ?zzk2 ?zzk3 ?zzk4 ?zzk5 ?zzkA ?zzkF ?zzkK ?zzk6 ?zzk7 ?zzk8 ?zzk9 ?zzkB ?_ ?zzc2 ?zzc3 ?zzc4 ?zzc5; (case zzkA => exact rfl); (case zzkF => exact rfl); (case zzk1 => k_asm); (case zzk2 => k_asm); (case zzk3 => k_asm); (case zzk4 => k_asm); (case zzk5 => k_asm); (case zzkK => (rename (Scope.kind _ = ScopeKind.function) => hk9; exact hk9)); (case zzk6 => k_mem); (case zzk7 => exact codeRec_news (by k_asm) (by k_mem) (by assumption) (by assumption)); (case zzk8 => k_room); (case zzk9 => exact rfl); (case zzc5 => decide); (case zzkB => exact locs rfl); (case zzc2 => exact rfl); (case zzc3 => exact rfl); (case zzc4 => exact rfl); k_whole); (first | (k_extra "EPSENT"; refine no_implicit_lambda% (all_eps3 (i := by k_extra "NE9") ?_); generalize pj0 _ = g', pj1 _ = L', pj2 _ = h'; intro FG' F' N' B' X' T') | intro g' L' h' FG' F' N' B' X' T'); (try dsimp only); (try k_lift B'); (try k_fold))))
  (k_with "SUBL" => ((intros p9 h9; (repeat (first | exact h9 | refine List.Mem.tail _ ?_)))))
  (k_with "subscriptTail Name Name ref int" => ((k_here; (with_reducible show wpAny _ _ (subscriptTail _ _ (Value.ref _) (Value.int _ _)) _ _ _); (rename List.length _ = 5 => h57); k_dflt (refine' my_itemI ?zzk1 ?zzk2 ?zzki ?zzk4 ?zzk5 ?zzk6 ?_; (case zzk1 => k_asm); (case zzk2 => k_mem); (case zzki => with_reducible assumption); (case zzk4 => omega); (case zzk5 => (rw [h57]; omega)); (case zzk6 => (rw [h57]; omega))); intro t9)))
  (k_with "exec For Name Call cons nil" => ((k_here; k_dflt (refine' For_at ?_); k_whole)))
  (k_with "execs nil" => (((with_reducible refine wpAny_execs_nil ?_); try dsimp only)))
  (k_with "execs cons" => (((with_reducible refine wpAny_execs_cons ?_); try dsimp only)))
  (k_with "execs cons" => (((with_reducible show wpAny _ _ (execs (Stmt.Return _ _ :: _) _) _ _ _); (with_reducible refine wpAny_grow ?_); (with_reducible refine wpAny_execs_cons ?_); try dsimp only)))
  (k_with "ENTERR" => ((refine wpAny_call ?_; k_dflt (refine' code_subC ?zzk1 ?zzk2 ?zzk3 ?zzk4 ?zzk5 ?zzkD ?zzkR ?zzkA ?zzkF ?zzkK ?zzk6 ?zzk7 ?zzk8 ?zzk9 ?zzkB ?zzkN ?_ ?zzc2 ?zzc3 ?zzc4; (case zzkA => exact rfl); (case zzkF => exact rfl); (case zzkK => assumption); (case zzk1 => k_asm); (case zzk2 => k_asm); (case zzk3 => k_asm); (case zzk4 => k_asm); (case zzk5 => k_asm); (case zzkD => exact fun _ hq => List.mem_append_left _ hq); (case zzkR => exact rest_ok (by assumption)); (case zzk6 => k_is); (case zzk7 => k_is); (case zzk8 => ktr_room); (case zzk9 => walk_at "BINDS"); (case zzkB => exact rfl); (case zzkN => decide +kernel); (case zzc2 => exact rfl); (case zzc3 => exact rfl); (case zzc4 => exact rfl); k_whole; (first | (k_extra "EPSENT"; refine no_implicit_lambda% (all_eps5 (i := by k_extra "NE9") ?_); generalize pj0 _ = g', pj1 _ = L', pj2 _ = h', pj3 _ = tk', pj4 _ = cells'; intro FG' F' N' Y' B' X' T' _ _ hg9) | intro g' L' h' tk' cells' FG' F' N' Y' B' X' T' _ _ hg9); k_cells Y'; (try simp only [List.cons_append, List.nil_append, List.append_nil] at N'); (try ((rename CodeHd _ _ _ => hC8); (have hC9 := hC8.keeps FG'.keep))); (try dsimp only); (try k_lift B'); (try k_fold)))))
  exact True.intro
theorem c_orderL {prog : Program} {w : World} {loose : List Str} {mean : ExcName → Option Value} {mg mb : Str → Option Value}
    {dp un : Nat} {gd : Option (List Code)} {cn : Str} {cs : Scope} {a : Addr} {ccd : Value} {cl : List (Str × Addr)} {outer : List Env} {A₀ : Around} {base h₀ : Heap} {L : Addr} {m : Str → Option Value} {s : Shared} {Q E : Value → Shared → Prop}
    {l : Addr} {n : Nat} {us : List Value} {ls : List Int} {ps : Array Value} {D₀ rest : List (Addr × Obj)}
    (B : Below A₀ base outer h₀) (F : Fr h₀ L s.heap m) (X : (hd.heap_39 w.params).In h₀) (N : News h₀ L s.heap ((172, tabObj ps) :: D₀)) (NR : News h₀ L s.heap rest) (hR : ∀ q ∈ rest, q.1 ∉ ((172, tabObj ps) :: D₀).map (·.1)) (T : Top topProg loose mean mg mb h₀) (hk : cs.kind = .function)
    (hdp : dp + 10 < recursionLimit) (hun : un + 300 < cLine) (hC : CodeHd h₀ 174 172) (TB : TabIn "_law_order.<locals>.<lambda>" ps D₀) (a4 : ∀ p ∈ D₀, p.1 ≠ 172) (hl : (l, listOf us.toArray n) ∈ D₀) (hi : IntsAre us ls) (h5 : ls.length = 5)
    (hok : OrdOk false ls)
    (hret : ∀ r ov no ps' D h' tk', Fr h₀ L h' m → News h₀ L h' ((r, listOf (List.toArray ov) no) :: (172, tabObj ps') :: D) → News h₀ L h' rest → (∀ q ∈ rest, ∀ p ∈ (r, listOf (List.toArray ov) no) :: D, q.1 ≠ p.1) → (∀ p ∈ D₀, p ∈ D) → (∀ p ∈ D, p.1 ≠ 172) → TabIn "_law_order.<locals>.<lambda>" ps' D → IntsAre ov (ordGo false ls 5) → TokIn s.toks tk' ov → Q (.ref r) { s with heap := h', toks := tk' }) :
    wpAny (model prog w) (ktrTop dp un gd cn cs L a ccd cl outer) (call (.ref 175) [.ref l, .bool false]) Q E s := by
  k_with "EPSON" => skip
  k_with "NE9" => repeat (with_reducible first | exact neSh | exact neAr | exact neEx | exact neWo | refine neP ?_ ?_ | infer_instance)
  k_with "RangeRest" => first
    | ((with_unfolding_all refine RangeRest.succ ?_); intro t' h' tk' F' N')
    | ((with_unfolding_all refine RangeRest.zero ?_); intro h' tk' F' N')
  k_with "CompRest" => first
    | ((with_unfolding_all refine LCg.CompRest.succ ?_); (first | (k_extra "EPSON"; refine no_implicit_lambda% (all_eps10 (i := by k_extra "NE9") ?_); generalize pj0 _ = v', pj1 _ = I', pj2 _ = oI', pj3 _ = C', pj4 _ = oC', pj5 _ = D', pj6 _ = m', pj7 _ = h', pj8 _ = tk', pj9 _ = E'; intro hv' hC' hx' F' N' off' ne') | intro v' I' oI' C' oC' D' m' h' tk' E' hv' hC' hx' F' N' off' ne'); (first | lcg_open hv' | (refine ex_elim hv' ?_; clear hv'; intro t9' hv9'; subst hv9')); (try simp only [LCg.Off3, and_true] at off'))
    | with_unfolding_all refine LCg.CompRest.zero ?_
  k_with "EPS1" => (refine no_implicit_lambda% (all_eps (i := by k_extra "NE9") ?_); generalize eps _ _ = xE9)
  k_with "EPSCELLS" => first
    | (have hY := PyProof.Rows.CellsAre.one Y'; refine ex_elim hY ?_; clear hY; intro o' hE'; obtain ⟨hE', d1'⟩ := hE'; subst hE'; clear Y')
    | (have hY := PyProof.Rows.CellsAre.two Y'; refine ex_elim hY ?_; clear hY; intro o' hY; refine ex_elim hY ?_; clear hY; intro o2' hY; obtain ⟨hE', d1', d2'⟩ := hY; subst hE'; clear Y')
    | (have hY := PyProof.Rows.CellsAre.three Y'; refine ex_elim hY ?_; clear hY; intro o' hY; refine ex_elim hY ?_; clear hY; intro o2' hY; refine ex_elim hY ?_; clear hY; intro o3' hY; obtain ⟨hE', d1', d2', d3'⟩ := hY; subst hE'; clear Y')
  k_with "EPSENT" => skip
  revert B F X N NR hR T hk hdp hun hC TB a4 hl hi h5 hok hret
  revert prog w loose mean mg mb dp un gd cn cs a ccd cl outer A₀ base h₀ L m s Q E l n us ls ps D₀ rest
  refine no_implicit_lambda% (all_eps24 (i := by k_extra "NE9") ?_); generalize pj0 _ = prog, pj1 _ = w, pj2 _ = loose, pj3 _ = mean, pj4 _ = mg, pj5 _ = mb, pj6 _ = dp, pj7 _ = un, pj8 _ = gd, pj9 _ = cn, pj10 _ = cs, pj11 _ = a, pj12 _ = ccd, pj13 _ = cl, pj14 _ = outer, pj15 _ = A₀, pj16 _ = base, pj17 _ = h₀, pj18 _ = L, pj19 _ = m, pj20 _ = s, pj21 _ = Q, pj22 _ = E, pj23 _ = l; refine no_implicit_lambda% (all_eps6 (i := by k_extra "NE9") ?_); generalize pj0 _ = n, pj1 _ = us, pj2 _ = ls, pj3 _ = ps, pj4 _ = D₀, pj5 _ = rest
  intros B F X N NR hR T hk hdp hun hC TB a4 hl hi h5 hok hret
  (k_with "call type:range" => ((rename Fr _ _ _ _ => lF'); (rename News _ _ _ _ => lN'); k_dflt (refine' order_at false (ls := ls) ?kh ?kg lF' lN' TB ?ka ?kb ?kc ?kd ?ke ?step ?fin; (case kh => exact rfl); (case kg => exact fun _ _ => rfl); (case ka => (obtain ⟨_, _, _, hA⟩ := ‹_ ∧ _ ∧ _ ∧ AllLt _ D₀›; exact neLt hA)); (case kb => (obtain ⟨_, _, hA⟩ := ‹_ ∧ _ ∧ AllLt _ D₀›; exact neLt hA)); (case kc => (have hB := ‹∀ q ∈ (172, tabObj ps) :: D₀, q.1 < _›; exact fun p hp => Nat.ne_of_lt (Nat.lt_succ_of_lt (hB p (.tail _ hp))))); (case kd => exact a4); (case ke => (have hB := ‹∀ q ∈ (172, tabObj ps) :: D₀, q.1 < _›; exact Nat.lt_succ_of_lt (hB _ (.head _))))); (case' step => (clear lF' lN'; (first | (k_extra "EPSON"; refine no_implicit_lambda% (all_eps12 (i := by k_extra "NE9") ?_); generalize pj0 _ = i9, pj1 _ = t9, pj2 _ = I9, pj3 _ = o9, pj4 _ = z9, pj5 _ = h9, pj6 _ = ov9, pj7 _ = pv9, pj8 _ = no9, pj9 _ = np9, pj10 _ = ps9, pj11 _ = D9; intro hi9 ht9 x1 x2 x3 x4 x5 y1 y2 y3 y4 y5 z1 z2 z3 z4 z5 lF9 lN9) | intro i9 t9 I9 o9 z9 h9 ov9 pv9 no9 np9 ps9 D9 hi9 ht9 x1 x2 x3 x4 x5 y1 y2 y3 y4 y5 z1 z2 z3 z4 z5 lF9 lN9); (have hl9 := x5 _ hl); k_lt2 z1; k_lt2 z2; k_lt2 z3; k_lt2 z4; k_lt2 z5; (try dsimp only); (try k_fold))); (case' fin => (clear lF' lN'; (first | (k_extra "EPSON"; refine no_implicit_lambda% (all_eps9 (i := by k_extra "NE9") ?_); generalize pj0 _ = h9, pj1 _ = tk9, pj2 _ = z9, pj3 _ = ov9, pj4 _ = pv9, pj5 _ = no9, pj6 _ = np9, pj7 _ = ps9, pj8 _ = D9; intro ht9 x1 x2 x3 x4 x5 y1 y2 y3 y4 z5 lF9 lN9) | intro h9 tk9 z9 ov9 pv9 no9 np9 ps9 D9 ht9 x1 x2 x3 x4 x5 y1 y2 y3 y4 z5 lF9 lN9); k_lt2 z5; (refine pairs_five x3 ?_); (first | (k_extra "EPSON"; refine no_implicit_lambda% (all_eps24 (i := by k_extra "NE9") ?_); generalize pj0 _ = ka0, pj1 _ = kx0, pj2 _ = ky0, pj3 _ = kt0, pj4 _ = ku0, pj5 _ = kn0, pj6 _ = ka1, pj7 _ = kx1, pj8 _ = ky1, pj9 _ = kt1, pj10 _ = ku1, pj11 _ = kn1, pj12 _ = ka2, pj13 _ = kx2, pj14 _ = ky2, pj15 _ = kt2, pj16 _ = ku2, pj17 _ = kn2, pj18 _ = ka3, pj19 _ = kx3, pj20 _ = ky3, pj21 _ = kt3, pj22 _ = ku3, pj23 _ = kn3; refine no_implicit_lambda% (all_eps6 (i := by k_extra "NE9") ?_); generalize pj0 _ = ka4, pj1 _ = kx4, pj2 _ = ky4, pj3 _ = kt4, pj4 _ = ku4, pj5 _ = kn4; intro m0 m1 m2 m3 m4 hpv hq0) | intro ka0 kx0 ky0 kt0 ku0 kn0 ka1 kx1 ky1 kt1 ku1 kn1 ka2 kx2 ky2 kt2 ku2 kn2 ka3 kx3 ky3 kt3 ku3 kn3 ka4 kx4 ky4 kt4 ku4 kn4 m0 m1 m2 m3 m4 hpv hq0); subst hpv; (have ho := hok.eq); (rw [hq0] at ho); (replace ho : Sealed _ := ⟨ho⟩); (clear hq0 x3); (try dsimp only); (try k_fold)))))
  (k_with "eval Lambda" => ((refine wpAny_grow ?_); k_dflt ((refine' kla_eval ?d0 ?_; (case d0 => exact rfl)); refine' lam_any (D := D9) ?F ?N ?T ?C ?cd ?U ?TB ?hD ?cl ?_; (case F => k_asm); (case N => k_asm); (case T => k_asm); (case C => assumption); (case cd => exact rfl); (case U => k_updF); (case TB => assumption); (case hD => walk_at "SUBL"); (case cl => exact rfl); k_whole); (first | (k_extra "EPSON"; refine no_implicit_lambda% (all_eps9 (i := by k_extra "NE9") ?_); generalize pj0 _ = f9, pj1 _ = c9, pj2 _ = oc9, pj3 _ = vs9, pj4 _ = tc9, pj5 _ = ct9, pj6 _ = ps8, pj7 _ = h9, pj8 _ = tk9; intro lF8 lN8 d1 d2 l1 l2 hc9 TB9 hg8) | intro f9 c9 oc9 vs9 tc9 ct9 ps8 h9 tk9 lF8 lN8 d1 d2 l1 l2 hc9 TB9 hg8); (try dsimp only at lN8); (try k_lt l1); (have q1 := lam_apart hc9 y1 (by k_mem)); (have q2 := lam_apart hc9 y2 (by k_mem)); (have q3 := lam_apart hc9 y3 (by k_mem)); (have q4 := lam_apart hc9 y4 (by k_mem)); (have q5 := lam_apart hc9 y5 (by k_mem))))
  (k_with "call ref" => (first
    | ((refine wpAny_grow ?_); k_dflt (refine' iL_lam (ls := ls) ?k1 ?k2 ?k3 ?k4 ?k5 ?kK ?kd ?ku ?kU x1 ?kr ?kn ?k0 ?k6 ?kf ?kL ?_; (case k1 => k_asm); (case k2 => k_asm); (case k3 => k_asm); (case k4 => k_asm); (case k5 => k_asm); (case kU => k_updF); (case kr => exact ordGo_range _ _ _ (by omega)); (case kn => (rw [ordGo_length]; omega)); (case k0 => omega); (case k6 => omega); (case kf => exact fun _ _ _ _ N => ⟨⟨_, _, (N _ (.head _)).1, rfl⟩⟩); (case kK => exact rfl); (case kd => ktr_room); (case ku => ktr_units); (case kL => (intro o8 t8 hb1 hb2 dp8 un8 gd8 cn8 cs8 a8 ccd8 cl8 outer8 A8 base8 h08 L8 m8 s8 Q8 E8 B8 F8 X8 N8 T8 hk8 hd8 hu8 hr8; walk_at "ENTERLAM"; k_steps; exact hr8 _ _ _ (by assumption) (by assumption))); k_whole); (first | (k_extra "EPSON"; refine no_implicit_lambda% (all_eps2 (i := by k_extra "NE9") ?_); generalize pj0 _ = h8, pj1 _ = tk8; intro F8 N8 hg8) | intro h8 tk8 F8 N8 hg8); (try dsimp only); (try k_fold))
    | ((refine wpAny_grow ?_); k_dflt (refine' iL_pair (D := D9) ?k1 ?k2 ?k3 ?k4 ?k5 ?kK ?kd ?ku ?kU x3 ?kD ?kn ?kx ?_; (case k1 => k_asm); (case k2 => k_asm); (case k3 => k_asm); (case k4 => k_asm); (case k5 => k_asm); (case kU => k_updF); (case kD => walk_at "SUBL"); (case kn => (rw [prGo_length]; omega)); (case kx => k_mem); (case kK => exact rfl); (case kd => ktr_room); (case ku => ktr_units); k_whole); (first | (k_extra "EPSON"; refine no_implicit_lambda% (all_eps2 (i := by k_extra "NE9") ?_); generalize pj0 _ = h8, pj1 _ = tk8; intro F8 N8 hg8) | intro h8 tk8 F8 N8 hg8); (try dsimp only); (try k_fold))))
  have NA9 := news_app N NR
  walk_at "ENTERR"
  k_steps
  rotate_left 2
  · (rename Fr _ _ _ _ => lF8); (rename News _ _ _ _ => lN8)
    refine ord_end lF8 lN8 (by walk_at "SAME") (by rw [ordGo_L]; exact ints_ins x1 _ _ _) (fun hle => TokIn.ins x2 ?_ ?_ ?_ _) (by rw [prGo_L]; exact All2.ins (PairsIn.mono (fun p hp => .tail _ hp) x3) (.mk (.head _)) _) TB9 x5 y1 y2 y3 y4 y5 q1 q2 q3 q4 q5 ?_ ?_ ?_ ?_ ?_ ?_ ?_ ?_ ?_
    all_goals first | k_ne | ((try dsimp only at *); omega)
  · (rename News _ _ _ _ => lN8)
    revert lN8
    (rename News _ _ _ _ => lN7)
    intro lN8 hNR9
    exact hret _ ov9 no9 ps9 D9 _ _ (by assumption) (news_sub lN8 (List.forall_mem_cons.mpr ⟨by k_mem, List.forall_mem_cons.mpr ⟨by k_mem, by walk_at "SUBL"⟩⟩)) hNR9 (fun q hq => List.forall_mem_cons.mpr ⟨news_apart lN7 (by assumption) q hq (_, listOf (List.toArray ov9) no9) (by k_mem), fun p hp => news_apart lN7 (by assumption) q hq p (by have hp9 := hp; repeat (first | exact hp9 | refine List.Mem.tail _ ?_))⟩) x5 y4 x4 x1 (TokIn.low (TokIn.mono x2 (by omega)) (by (try dsimp only); omega))
  · exact absurd ho.eq (by assumption)

end
section
theorem words_firsts : True := by
  k_with_none
  (k_with "CJ" => (with_reducible first | assumption | exact cj0 ‹_› | exact cj1 ‹_› | exact cl1 ‹_› | exact cj2 ‹_› | exact cl2 ‹_› | exact cj3 ‹_› | exact cl3 ‹_› | exact cj4 ‹_› | exact cl4 ‹_› | exact cj5 ‹_› | exact cl5 ‹_› | exact cj6 ‹_› | exact cl6 ‹_› | exact cj7 ‹_› | exact cl7 ‹_› | exact cj8 ‹_› | exact cl8 ‹_› | exact cj9 ‹_› | exact cl9 ‹_› | exact cj10 ‹_› | exact cl10 ‹_› | exact cj11 ‹_› | exact cl11 ‹_› | exact cj12 ‹_› | exact cl12 ‹_›))
  (k_with "k_ne" => (((refine neN ?_); (try dsimp only); first | exact Nat.ne_of_gt (by k_extra "CJ") | exact Nat.ne_of_lt (by k_extra "CJ") | k_extra "CJ" | exact Ne.symm (by k_extra "CJ"))))
  (k_with "ktr_room" => (first | exact rm0 ‹_› | exact rm1 ‹_› rfl | exact rm2 ‹_› rfl | exact rm3 ‹_› rfl))
  (k_with "ktr_units" => (first | exact rm0 ‹_› | exact rm1 ‹_› rfl | exact rm2 ‹_› rfl | exact rm3 ‹_› rfl))
  (k_with "k_mem" => (first | exact List.Mem.head _ | (refine' List.Mem.tail _ ?_; k_mem) | (show (_ : Addr × Obj) ∈ (_ : List (Addr × Obj)); with_reducible assumption)))
  (k_with "BINDS" => (first | exact BindsTo.of_eq rfl | exact binds_K (by k_in) rfl (by k_is) rfl rfl rfl | (refine' kp_binds ?zzkx ?zzke; (case zzkx => k_in); (case zzke => exact fun _ => rfl))))
  (k_with "callWith ref" => ((k_here; k_dflt (first | (refine' callWith_K ?zzk1 ?zzk2 ?_; (case zzk1 => k_asm); (case zzk2 => k_is); k_whole) | (refine' callWith_KW ?zzk1 ?zzk2 ?zzk3 ?_; (case zzk1 => k_asm); (case zzk2 => k_is); (case zzk3 => exact rfl); k_whole)))))
  (k_with "call builtin:len" => ((k_here; (with_reducible show wpAny _ _ (call (Value.builtin "len") [Value.ref _]) _ _ _); k_dflt (refine' my_len ?zzk1 ?zzk2 ?zzk3 ?_; (case zzk1 => k_asm); (case zzk2 => k_mem); (case zzk3 => first | assumption | omega); k_whole))))
  (k_with "callWith ref" => ((k_here; k_dflt (refine' callWith_Fn1 ?zzkf ?_; (case zzkf => with_reducible assumption); k_whole))))
  (k_with "And" => (((with_reducible show IsFn _ _ ∧ _); refine ⟨KeyFn.get (by with_reducible assumption) (by k_in) (by k_asm), ?_⟩; try dsimp only [List.nil_append, List.cons_append])))
  (k_with "SAME" => (first | exact Same.refl _ _ | (intros z h9; (simp only [List.contains_cons, List.contains_nil, Bool.or_false, Bool.or_eq_false_iff, beq_eq_false_iff_ne, ne_eq] at h9); simp [h9])))
  (k_with "CompEnd" => ((k_dflt (refine' compEnd_same ?zzF ?zzN ?zzoff ?zzsrc ?_; (case zzF => k_asm); (case zzN => k_asm); (case zzoff => first | assumption | ((simp only [LCg.Off3, and_true]); first | done | assumption)); (case zzsrc => lcg_src)))))
  exact True.intro
abbrev firstS : List Str := ["length", "at"]
/-- the first place of every length is the one that the search finds -/
structure FirstOk (ls os : List Int) : Prop where
  ok : ∀ x ∈ ls, ((ix ls x : Nat) : Int) ∈ os ∧ ix os (ix ls x : Nat) = bisN (fun j => decide (ls.getD (os.getD j 0).toNat 0 < x)) 0 os.length
theorem bL_lam {prog : Program} {w : World} {loose : List Str} {mean : ExcName → Option Value} {mg mb : Str → Option Value}
    {dp un : Nat} {gd : Option (List Code)} {cn : Str} {cs : Scope} {a : Addr} {ccd : Value} {cl : List (Str × Addr)} {outer : List Env} {A₀ : Around} {base h₀ : Heap} {L : Addr} {m : Str → Option Value} {s : Shared} {Q E : Value → Shared → Prop} {news : List (Addr × Obj)}
    {l kf : Addr} {ov : List Value} {os ls : List Int} {n r : Nat} {x : Int} {t : Tok}
    (B : Below A₀ base outer h₀) (F : Fr h₀ L s.heap m) (X : (hd.heap_39 w.params).In h₀) (N : News h₀ L s.heap news) (T : Top topProg loose mean mg mb h₀) (hk : cs.kind = .function)
    (hdp : dp + 3 < recursionLimit) (hun : un + 24 < cLine) (hl : (l, listOf ov.toArray n) ∈ news) (hi : IntsAre ov os) (hr : ∀ o ∈ os, 0 ≤ o ∧ o < 5) (hlen : os.length < 1000) (hfn : KeyFn w news kf)
    (LK : ∀ (o : Int) (t : Tok), 0 ≤ o → o < 5 → KeyOk prog w loose mean mg mb news kf (.int o t) (ls.getD o.toNat 0)) (he : r = bisN (fun j => decide (ls.getD (os.getD j 0).toNat 0 < x)) 0 os.length)
    (hret : ∀ t h' tk', Fr h₀ L h' m → News h₀ L h' news → Q (.int (r : Int) t) { s with heap := h', toks := tk' }) :
    wpAny (model prog w) (ktrTop dp un gd cn cs L a ccd cl outer) (call (.ref 50) [.ref l, .int x t] [("key", .ref kf)]) Q E s := by
  have e := hi.length
  refine bL_key2 (kk := fun j => ls.getD (os.getD j 0).toNat 0) B F X N T hk (by omega) (by omega) hl (by omega) hfn (fun i v hv => ?_) fun t' h' tk' F' N' => by rw [e, ← he]; exact hret t' h' tk' F' N'
  obtain ⟨o, u, rfl, ho⟩ := ints_get hi hv
  have hm := hr o (List.mem_of_getElem? ho)
  have eo : os.getD i 0 = o := by rw [List.getD_eq_getElem?_getD, ho]; rfl
  show KeyOk prog w loose mean mg mb news kf (.int o u) (ls.getD (os.getD i 0).toNat 0)
  rw [eo]
  exact LK o u hm.1 hm.2
/-- what stands between the turns -/
def FirJ (cell : Addr) (co : Obj) (qual : Str) (D₀ nl : List (Addr × Obj)) : Prop :=
  ∃ (ps : Array Value) (D : List (Addr × Obj)), nl = (cell, co) :: (177, tabObj ps) :: D ∧ TabIn qual ps D ∧ (∀ p ∈ D₀, p ∈ D) ∧ (∀ p ∈ D, p.1 ≠ cell) ∧ (∀ p ∈ D, p.1 ≠ 177)
theorem firsts_at {prog : Program} {w : World} {A : Around} {E : Value → Shared → Prop} {s : Shared} {env : Env} {h₀ : Heap} {target : PySem.Expr} {body orelse : List Stmt} {Q : Flow → Shared → Prop} {l cell : Addr} {co : Obj} {us : List Value} {ls : List Int} {n : Nat} {ps : Array Value} {D₀ : List (Addr × Obj)} {qual : Str} {m : Str → Option Value}
    (hh : A.handled = none) (F : Fr h₀ env.locals s.heap m) (N : News h₀ env.locals s.heap ((cell, co) :: (177, tabObj ps) :: D₀)) (hl : (l, listOf us.toArray n) ∈ D₀) (hi : IntsAre us ls)
    (TB : TabIn qual ps D₀) (a3 : ∀ p ∈ D₀, p.1 ≠ cell) (a4 : ∀ p ∈ D₀, p.1 ≠ 177) (hcell : 177 < cell)
    (step : ∀ (x : Int) (t : Tok) (I : Addr) (o : Obj) (z : Str → Option Value) (h₁ : Heap) (tk₁ : Nat) (ps : Array Value) (D : List (Addr × Obj)), x ∈ ls → Value.int x t ∈ us → s.toks ≤ tk₁ → TabIn qual ps D → (∀ p ∈ D₀, p ∈ D) →
      (∀ p ∈ D, p.1 ≠ cell) → (∀ p ∈ D, p.1 ≠ 177) → (∀ p ∈ D, p.1 ≠ I) → cell < I → 177 < I → 177 < cell →
      Fr h₀ env.locals h₁ (fun y => if firstS.contains y then z y else m y) → News h₀ env.locals h₁ ((I, o) :: (cell, co) :: (177, tabObj ps) :: D) →
      wpAny (model prog w) A (assign target env (.int x t)) (fun _ s₃ => wpAny (model prog w) A (execs body env) (StepT h₀ env.locals [I] [(I, o)] [(l, listOf us.toArray n)] (fun _ m' nl => Same firstS m m' ∧ FirJ cell co qual D₀ nl) { s with heap := h₁, toks := tk₁ } Q) E s₃) E { s with heap := h₁, toks := tk₁ })
    (fin : ∀ (h' : Heap) (tk : Nat) (z : Str → Option Value) (ps : Array Value) (D : List (Addr × Obj)), TabIn qual ps D → (∀ p ∈ D₀, p ∈ D) → (∀ p ∈ D, p.1 ≠ cell) → (∀ p ∈ D, p.1 ≠ 177) →
      Fr h₀ env.locals h' (fun y => if firstS.contains y then z y else m y) → News h₀ env.locals h' ((cell, co) :: (177, tabObj ps) :: D) → wpAny (model prog w) A (execs orelse env) Q E { s with heap := h', toks := tk })
    (hE : PassesOwn (model prog w) A env E := by passes_own) : LoopAt prog w A env target body orelse Q E (.ref l) s := by
  refine LoopAt.list (fun _ _ m' nl => Same firstS m m' ∧ FirJ cell co qual D₀ nl) hh F N (.tail _ (.tail _ hl)) ⟨Same.refl _ _, ps, D₀, rfl, TB, fun _ h => h, a3, a4⟩ ?_ ?_ (fun _ _ _ _ _ h _ => h) hE
  · rintro i v I o m₁ nl h₁ tk₁ hx ⟨hS, ps, D, rfl, x1, x2, x3, x4⟩ hle _ hI hlt F₁ N₁
    obtain ⟨x, t, rfl, hk⟩ := ints_get hi hx
    rw [hS.eq] at F₁
    exact step x t I o m₁ h₁ tk₁ ps D (List.mem_of_getElem? hk) (List.mem_of_getElem? hx) hle x1 x2 x3 x4 (fun p hp => hI p (.tail _ (.tail _ hp))) (hlt _ (.head _)) (hlt _ (.tail _ (.head _))) hcell F₁ N₁
  · rintro h' tk m' nl ⟨hS, ps, D, rfl, x1, x2, x3, x4⟩ _ _ F' N'
    rw [hS.eq] at F'
    exact fin h' tk m' ps D x1 x2 x3 x4 F' N'
theorem fir_end {h₀ h' : Heap} {L : Addr} {ef el : Addr × Obj} {c9 I cell : Addr} {oc o co : Obj} {tk : Nat} {qual : Str} {ps : Array Value} {D D₀ : List (Addr × Obj)} {m m' : Str → Option Value} {s₁ : Shared} {Q : Flow → Shared → Prop}
    (F : Fr h₀ L h' m') (N : News h₀ L h' (ef :: (c9, oc) :: (I, o) :: (cell, co) :: (177, tabObj ps) :: D)) (hS : Same firstS m m') (x4 : TabIn qual ps ((c9, oc) :: D)) (x5 : ∀ p ∈ D₀, p ∈ D) (hel : el ∈ D)
    (y3 : ∀ p ∈ D, p.1 ≠ cell) (y4 : ∀ p ∈ D, p.1 ≠ 177) (y5 : ∀ p ∈ D, p.1 ≠ I) (q3 : c9 ≠ cell) (q4 : c9 ≠ 177) (q5 : c9 ≠ I) (z3 : cell ≠ I) (z4 : (177 : Addr) ≠ I) :
    StepT h₀ L [I] [(I, o)] [el] (fun _ m' nl => Same firstS m m' ∧ FirJ cell co qual D₀ nl) s₁ Q .next { s₁ with heap := h', toks := tk } := by
  refine StepT.next (ns := (cell, co) :: (177, tabObj ps) :: (c9, oc) :: D) F (news_sub N ?_) ?_ (fun p hp => by rw [List.mem_singleton.mp hp]; exact .tail _ (.tail _ (.tail _ hel))) fun _ => ⟨hS, ps, (c9, oc) :: D, rfl, x4, fun p hp => .tail _ (x5 p hp), List.forall_mem_cons.mpr ⟨q3, y3⟩, List.forall_mem_cons.mpr ⟨q4, y4⟩⟩
  · intro p hp
    simp only [List.mem_cons, List.cons_append, List.nil_append] at hp ⊢
    rcases hp with h | h | h | h | h <;> simp [h]
  · intro p hp q
    have q := List.mem_singleton.mp q
    simp only [List.mem_cons] at hp
    rcases hp with rfl | rfl | rfl | hp
    · exact z3 q
    · exact z4 q
    · exact q5 q
    · exact y5 _ hp q
theorem words_firsts_1 : True := by
  (k_with "k_all" => (with_reducible assumption))
  (k_with "ENTERLAM" => (((refine wpAny_call ?_); k_dflt (refine' kla_code ?zzk1 ?zzk2 ?zzk3 ?zzk4 ?zzk5 ?zzkA ?zzkF ?zzkK ?zzk6 ?zzk7 ?zzk8 ?zzk9 ?zzkB ?_ ?zzc2 ?zzc3 ?zzc4 ?zzc5; (case zzkA => exact rfl); (case zzkF => exact rfl); (case zzk1 => k_asm); (case zzk2 => k_asm); (case zzk3 => k_asm); (case zzk4 => k_asm); (case zzk5 => k_asm); (case zzkK => (rename (Scope.kind _ = ScopeKind.function) => hk9; exact hk9)); (case zzk6 => k_mem); (case zzk7 => exact codeRec_news (by k_asm) (by k_mem) (by assumption) (by assumption)); (case zzk8 => k_room); (case zzk9 => exact rfl); (case zzc5 => decide); (case zzkB => exact locs rfl); (case zzc2 => exact rfl); (case zzc3 => exact rfl); (case zzc4 => exact rfl); k_whole); (first | (k_extra "EPSENT"; refine no_implicit_lambda% (all_eps3 (i := by k_extra "NE9") ?_); generalize pj0 _ = g', pj1 _ = L', pj2 _ = h'; intro FG' F' N' B' X' T') | intro g' L' h' FG' F' N' B' X' T'); (try dsimp only); (try k_lift B'); (try k_fold))))
  (k_with "SUBL" => ((intros p9 h9; (repeat (first | exact h9 | refine List.Mem.tail _ ?_)))))
  (k_with "exec For Name Name cons nil" => ((k_here; k_dflt (refine' For_at ?_); k_whole)))
  (k_with "execs cons" => (((with_reducible refine wpAny_execs_cons ?_); try dsimp only)))
  (k_with "ENTERR" => ((refine wpAny_call ?_; k_dflt (refine' code_subC ?zzk1 ?zzk2 ?zzk3 ?zzk4 ?zzk5 ?zzkD ?zzkR ?zzkA ?zzkF ?zzkK ?zzk6 ?zzk7 ?zzk8 ?zzk9 ?zzkB ?zzkN ?_ ?zzc2 ?zzc3 ?zzc4; (case zzkA => exact rfl); (case zzkF => exact rfl); (case zzkK => assumption); (case zzk1 => k_asm); (case zzk2 => k_asm); (case zzk3 => k_asm); (case zzk4 => k_asm); (case zzk5 => k_asm); (case zzkD => exact fun _ hq => List.mem_append_left _ hq); (case zzkR => exact rest_ok (by assumption)); (case zzk6 => k_is); (case zzk7 => k_is); (case zzk8 => ktr_room); (case zzk9 => walk_at "BINDS"); (case zzkB => exact rfl); (case zzkN => decide +kernel); (case zzc2 => exact rfl); (case zzc3 => exact rfl); (case zzc4 => exact rfl); k_whole; (first | (k_extra "EPSENT"; refine no_implicit_lambda% (all_eps5 (i := by k_extra "NE9") ?_); generalize pj0 _ = g', pj1 _ = L', pj2 _ = h', pj3 _ = tk', pj4 _ = cells'; intro FG' F' N' Y' B' X' T' _ _ hg9) | intro g' L' h' tk' cells' FG' F' N' Y' B' X' T' _ _ hg9); k_cells Y'; (try simp only [List.cons_append, List.nil_append, List.append_nil] at N'); (try ((rename CodeHd _ _ _ => hC8); (have hC9 := hC8.keeps FG'.keep))); (try dsimp only); (try k_lift B'); (try k_fold)))))
  exact True.intro
theorem c_firsts {prog : Program} {w : World} {loose : List Str} {mean : ExcName → Option Value} {mg mb : Str → Option Value}
    {dp un : Nat} {gd : Option (List Code)} {cn : Str} {cs : Scope} {a : Addr} {ccd : Value} {cl : List (Str × Addr)} {outer : List Env} {A₀ : Around} {base h₀ : Heap} {L : Addr} {m : Str → Option Value} {s : Shared} {Q E : Value → Shared → Prop}
    {l ol : Addr} {n no : Nat} {us ov : List Value} {ls os : List Int} {ps : Array Value} {D₀ rest : List (Addr × Obj)}
    (B : Below A₀ base outer h₀) (F : Fr h₀ L s.heap m) (X : (hd.heap_39 w.params).In h₀) (N : News h₀ L s.heap ((177, tabObj ps) :: D₀)) (NR : News h₀ L s.heap rest) (hR : ∀ q ∈ rest, q.1 ∉ ((177, tabObj ps) :: D₀).map (·.1)) (T : Top topProg loose mean mg mb h₀) (hk : cs.kind = .function)
    (hdp : dp + 10 < recursionLimit) (hun : un + 300 < cLine) (hC : CodeHd h₀ 181 177) (TB : TabIn "_law_firsts.<locals>.<lambda>" ps D₀) (a4 : ∀ p ∈ D₀, p.1 ≠ 177) (hl : (l, listOf us.toArray n) ∈ D₀) (hi : IntsAre us ls) (h5 : ls.length = 5)
    (hol : (ol, listOf ov.toArray no) ∈ D₀) (hio : IntsAre ov os) (hro : ∀ o ∈ os, 0 ≤ o ∧ o < 5) (hlo : os.length < 1000) (h1 : 1 ≤ s.toks)
    (htl : ∀ a t, Value.int a t ∈ us → TokX us a t) (hto : ∀ a t, Value.int a t ∈ ov → t ≠ 0 ∧ t < s.toks ∧ -5 ≤ a ∧ a ≤ 256) (hok : FirstOk ls os)
    (hret : ∀ ps' D h' tk', Fr h₀ L h' m → News h₀ L h' ((177, tabObj ps') :: D) → News h₀ L h' rest → (∀ q ∈ rest, ∀ p ∈ D, q.1 ≠ p.1) → (∀ p ∈ D₀, p ∈ D) → (∀ p ∈ D, p.1 ≠ 177) → TabIn "_law_firsts.<locals>.<lambda>" ps' D → Q (.bool true) { s with heap := h', toks := tk' }) :
    wpAny (model prog w) (ktrTop dp un gd cn cs L a ccd cl outer) (call (.ref 182) [.ref l, .ref ol]) Q E s := by
  k_with "EPSON" => skip
  k_with "NE9" => repeat (with_reducible first | exact neSh | exact neAr | exact neEx | exact neWo | refine neP ?_ ?_ | infer_instance)
  k_with "RangeRest" => first
    | ((with_unfolding_all refine RangeRest.succ ?_); intro t' h' tk' F' N')
    | ((with_unfolding_all refine RangeRest.zero ?_); intro h' tk' F' N')
  k_with "CompRest" => first
    | ((with_unfolding_all refine LCg.CompRest.succ ?_); (first | (k_extra "EPSON"; refine no_implicit_lambda% (all_eps10 (i := by k_extra "NE9") ?_); generalize pj0 _ = v', pj1 _ = I', pj2 _ = oI', pj3 _ = C', pj4 _ = oC', pj5 _ = D', pj6 _ = m', pj7 _ = h', pj8 _ = tk', pj9 _ = E'; intro hv' hC' hx' F' N' off' ne') | intro v' I' oI' C' oC' D' m' h' tk' E' hv' hC' hx' F' N' off' ne'); (first | lcg_open hv' | (refine ex_elim hv' ?_; clear hv'; intro t9' hv9'; subst hv9')); (try simp only [LCg.Off3, and_true] at off'))
    | with_unfolding_all refine LCg.CompRest.zero ?_
  k_with "EPS1" => (refine no_implicit_lambda% (all_eps (i := by k_extra "NE9") ?_); generalize eps _ _ = xE9)
  k_with "EPSCELLS" => first
    | (have hY := PyProof.Rows.CellsAre.one Y'; refine ex_elim hY ?_; clear hY; intro o' hE'; obtain ⟨hE', d1'⟩ := hE'; subst hE'; clear Y')
    | (have hY := PyProof.Rows.CellsAre.two Y'; refine ex_elim hY ?_; clear hY; intro o' hY; refine ex_elim hY ?_; clear hY; intro o2' hY; obtain ⟨hE', d1', d2'⟩ := hY; subst hE'; clear Y')
    | (have hY := PyProof.Rows.CellsAre.three Y'; refine ex_elim hY ?_; clear hY; intro o' hY; refine ex_elim hY ?_; clear hY; intro o2' hY; refine ex_elim hY ?_; clear hY; intro o3' hY; obtain ⟨hE', d1', d2', d3'⟩ := hY; subst hE'; clear Y')
  k_with "EPSENT" => skip
  revert B F X N NR hR T hk hdp hun hC TB a4 hl hi h5 hol hio hro hlo h1 htl hto hok hret
  revert prog w loose mean mg mb dp un gd cn cs a ccd cl outer A₀ base h₀ L m s Q E l ol n no us ov ls os ps D₀ rest
  refine no_implicit_lambda% (all_eps24 (i := by k_extra "NE9") ?_); generalize pj0 _ = prog, pj1 _ = w, pj2 _ = loose, pj3 _ = mean, pj4 _ = mg, pj5 _ = mb, pj6 _ = dp, pj7 _ = un, pj8 _ = gd, pj9 _ = cn, pj10 _ = cs, pj11 _ = a, pj12 _ = ccd, pj13 _ = cl, pj14 _ = outer, pj15 _ = A₀, pj16 _ = base, pj17 _ = h₀, pj18 _ = L, pj19 _ = m, pj20 _ = s, pj21 _ = Q, pj22 _ = E, pj23 _ = l; refine no_implicit_lambda% (all_eps10 (i := by k_extra "NE9") ?_); generalize pj0 _ = ol, pj1 _ = n, pj2 _ = no, pj3 _ = us, pj4 _ = ov, pj5 _ = ls, pj6 _ = os, pj7 _ = ps, pj8 _ = D₀, pj9 _ = rest
  intros B F X N NR hR T hk hdp hun hC TB a4 hl hi h5 hol hio hro hlo h1 htl hto hok hret
  (k_with "LoopAt" => ((rename Fr _ _ _ _ => lF'); (rename News _ _ _ _ => lN'); k_dflt (refine' firsts_at ?kh lF' lN' hl hi TB ?kc a4 ?ke ?step ?fin; (case kh => exact rfl); (case kc => (have hB := ‹∀ q ∈ (177, tabObj ps) :: D₀, q.1 < _›; exact fun p hp => Nat.ne_of_lt (Nat.lt_succ_of_lt (hB p (.tail _ hp))))); (case ke => (have hB := ‹∀ q ∈ (177, tabObj ps) :: D₀, q.1 < _›; exact Nat.lt_succ_of_lt (hB _ (.head _))))); (case' step => (clear lF' lN'; intro x9 t9 I9 o9 z9 h9 tk9 ps9 D9 hx9 hm9 ht9 x4 x5 y3 y4 y5 z3 z4 z5 lF9 lN9; (have hl9 := x5 _ hl); (have hol9 := x5 _ hol); (have ok9 := hok.ok x9 hx9); (have hb9 : ix os ((ix ls x9 : Nat) : Int) < 1000 := by rw [ok9.2]; exact Nat.lt_of_le_of_lt (bisN_le _ _) hlo); k_lt2 z3; k_lt2 z4; k_lt2 z5; (try dsimp only); (try k_fold))); (case' fin => (clear lF' lN'; intro h9 tk9 z9 ps9 D9 x4 x5 y3 y4 lF9 lN9; (try dsimp only); (try k_fold)))))
  (k_with "eval Lambda" => (k_dflt ((refine' kla_eval ?d0 ?_; (case d0 => exact rfl)); refine' lam_any (D := D9) ?F ?N ?T ?C ?cd ?U ?TB ?hD ?cl ?_; (case F => k_asm); (case N => k_asm); (case T => k_asm); (case C => assumption); (case cd => exact rfl); (case U => k_updF); (case TB => assumption); (case hD => walk_at "SUBL"); (case cl => exact rfl); k_whole); (first | (k_extra "EPSON"; refine no_implicit_lambda% (all_eps9 (i := by k_extra "NE9") ?_); generalize pj0 _ = f9, pj1 _ = c9, pj2 _ = oc9, pj3 _ = vs9, pj4 _ = tc9, pj5 _ = ct9, pj6 _ = ps8, pj7 _ = h9, pj8 _ = tk9; intro lF8 lN8 d1 d2 l1 l2 hc9 TB9) | intro f9 c9 oc9 vs9 tc9 ct9 ps8 h9 tk9 lF8 lN8 d1 d2 l1 l2 hc9 TB9); (try dsimp only at lN8); (try k_lt l1); (have q3 := lam_apart hc9 y3 (by k_mem)); (have q4 := lam_apart hc9 y4 (by k_mem)); (have q5 := lam_apart hc9 y5 (by k_mem))))
  (k_with "call ref" => (first
    | (k_dflt (refine' c_idx (us := us) (ns := ls) ?k1 ?k2 ?k3 ?k4 ?k5 ?kK ?kd ?ku ?kl hi (htl x9 t9 hm9) hx9 ?_; (case k1 => k_asm); (case k2 => k_asm); (case k3 => k_asm); (case k4 => k_asm); (case k5 => k_asm); (case kl => k_mem); (case kK => exact rfl); (case kd => ktr_room); (case ku => ktr_units); k_whole); intro t8 h8 tk8 F8 N8 hg8; (try dsimp only); (try k_fold))
    | (k_dflt (refine' c_idx (us := ov) (ns := os) ?k1 ?k2 ?k3 ?k4 ?k5 ?kK ?kd ?ku ?kl hio ?kt ok9.1 ?_; (case k1 => k_asm); (case k2 => k_asm); (case k3 => k_asm); (case k4 => k_asm); (case k5 => k_asm); (case kl => k_mem); (case kt => ((have hz9 : @LE.le Nat _ s.toks t8 := by ((try dsimp only at *); omega)); exact ⟨Nat.ne_of_gt (Nat.lt_of_lt_of_le h1 hz9), fun a t hm => ⟨(hto a t hm).1, fun e => absurd (e ▸ (hto a t hm).2.1) (Nat.not_lt.mpr hz9), (hto a t hm).2.2⟩⟩)); (case kK => exact rfl); (case kd => ktr_room); (case ku => ktr_units); k_whole); intro t7 h7 tk7 F7 N7 hg7; (try dsimp only); (try k_fold))
    | (k_dflt (refine' bL_lam (ls := ls) ?k1 ?k2 ?k3 ?k4 ?k5 ?kK ?kd ?ku ?kl hio hro hlo ?kf ?kL ok9.2 ?_; (case k1 => k_asm); (case k2 => k_asm); (case k3 => k_asm); (case k4 => k_asm); (case k5 => k_asm); (case kl => k_mem); (case kf => exact fun _ _ _ _ N => ⟨⟨_, _, (N _ (.head _)).1, rfl⟩⟩); (case kK => exact rfl); (case kd => ktr_room); (case ku => ktr_units); (case kL => (intro o8 t8 hb1 hb2 dp8 un8 gd8 cn8 cs8 a8 ccd8 cl8 outer8 A8 base8 h08 L8 m8 s8 Q8 E8 B8 F8 X8 N8 T8 hk8 hd8 hu8 hr8; walk_at "ENTERLAM"; k_steps; exact hr8 _ _ _ (by assumption) (by assumption))); k_whole); intro t6 h6 tk6 F6 N6; (try dsimp only); (try k_fold))))
  have NA9 := news_app N NR
  walk_at "ENTERR"
  k_steps
  · (rename News _ _ _ _ => lN8)
    revert lN8
    (rename News _ _ _ _ => lN7)
    intro lN8 hNR9
    exact hret _ D9 _ _ (by assumption) (news_sub lN8 (List.forall_mem_cons.mpr ⟨by k_mem, by walk_at "SUBL"⟩)) hNR9 (fun q hq p hp => news_apart lN7 (by assumption) q hq p (by have hp9 := hp; repeat (first | exact hp9 | refine List.Mem.tail _ ?_))) x5 y4 x4
  · simp_all
  · (rename Fr _ _ _ _ => lF8); (rename News _ _ _ _ => lN8)
    refine fir_end lF8 lN8 (by walk_at "SAME") TB9 x5 hl9 y3 y4 y5 q3 q4 q5 ?_ ?_
    all_goals k_ne

end
section
theorem words_hasattr : True := by
  k_with_none
  (k_with "CJ" => (with_reducible first | assumption | exact cj0 ‹_› | exact cj1 ‹_› | exact cl1 ‹_› | exact cj2 ‹_› | exact cl2 ‹_› | exact cj3 ‹_› | exact cl3 ‹_› | exact cj4 ‹_› | exact cl4 ‹_› | exact cj5 ‹_› | exact cl5 ‹_› | exact cj6 ‹_› | exact cl6 ‹_› | exact cj7 ‹_› | exact cl7 ‹_› | exact cj8 ‹_› | exact cl8 ‹_› | exact cj9 ‹_› | exact cl9 ‹_› | exact cj10 ‹_› | exact cl10 ‹_› | exact cj11 ‹_› | exact cl11 ‹_› | exact cj12 ‹_› | exact cl12 ‹_›))
  (k_with "k_ne" => (((refine neN ?_); (try dsimp only); first | exact Nat.ne_of_gt (by k_extra "CJ") | exact Nat.ne_of_lt (by k_extra "CJ") | k_extra "CJ" | exact Ne.symm (by k_extra "CJ"))))
  (k_with "ktr_room" => (first | exact rm0 ‹_› | exact rm1 ‹_› rfl | exact rm2 ‹_› rfl | exact rm3 ‹_› rfl))
  (k_with "ktr_units" => (first | exact rm0 ‹_› | exact rm1 ‹_› rfl | exact rm2 ‹_› rfl | exact rm3 ‹_› rfl))
  (k_with "k_mem" => (first | exact List.Mem.head _ | (refine' List.Mem.tail _ ?_; k_mem) | (show (_ : Addr × Obj) ∈ (_ : List (Addr × Obj)); with_reducible assumption)))
  (k_with "callWith ref" => ((k_here; k_dflt (first | (refine' callWith_K ?zzk1 ?zzk2 ?_; (case zzk1 => k_asm); (case zzk2 => k_is); k_whole) | (refine' callWith_KW ?zzk1 ?zzk2 ?zzk3 ?_; (case zzk1 => k_asm); (case zzk2 => k_is); (case zzk3 => exact rfl); k_whole)))))
  (k_with "call builtin:len" => ((k_here; (with_reducible show wpAny _ _ (call (Value.builtin "len") [Value.ref _]) _ _ _); k_dflt (refine' my_len ?zzk1 ?zzk2 ?zzk3 ?_; (case zzk1 => k_asm); (case zzk2 => k_mem); (case zzk3 => first | assumption | omega); k_whole))))
  (k_with "callWith ref" => ((k_here; k_dflt (refine' callWith_Fn1 ?zzkf ?_; (case zzkf => with_reducible assumption); k_whole))))
  (k_with "And" => (((with_reducible show IsFn _ _ ∧ _); refine ⟨KeyFn.get (by with_reducible assumption) (by k_in) (by k_asm), ?_⟩; try dsimp only [List.nil_append, List.cons_append])))
  exact True.intro
theorem ga_kind : typeOf (.builtin "list.__getitem__") = pure (.type "method_descriptor") := by kernel_rfl
theorem ga_get : typeLookup (.type "method_descriptor") "__get__" = pure (some (.builtin "method_descriptor.__get__")) := by rw [typeLookup_type, builtinLookup_eq_fast]; kernel_rfl
theorem ga_set : typeLookup (.type "method_descriptor") "__set__" = pure none := by rw [typeLookup_type, builtinLookup_eq_fast]; kernel_rfl
theorem ga_del : typeLookup (.type "method_descriptor") "__delete__" = pure none := by rw [typeLookup_type, builtinLookup_eq_fast]; kernel_rfl
theorem ga_sub : isSubtype (.type "list") (.type "list") = pure true := by rw [isSubtype_type]; kernel_rfl
theorem ga_slot : Slot "method_descriptor" "__get__" "method_descriptor.__get__" :=
  .of (owner := "method_descriptor") (n := "__get__") ga_get (by decide +kernel) (by decide +kernel) (by decide +kernel)
    (by first | exact .inl (by decide +kernel) | exact .inr (by decide +kernel)) (by rw [isSubtype_type]; kernel_rfl)
theorem ga_entry : entryFor table "method_descriptor.__get__" = some Builtin.«method_descriptor.__get__» := entryFor_of_fast (by kernel_rfl)
theorem ga_args (a b c : Value) : argsOk "method_descriptor.__get__" ⟨[a, b, c], []⟩ := by unfold argsOk; kernel_rfl
theorem meets_mdget (a : Addr) (us : List Value) (n : Nat) :
    Meets (Builtin.«method_descriptor.__get__» ⟨[.builtin "list.__getitem__", .ref a, .type "list"], []⟩) (fun _ R s => s.heap.get? a = some (listOf us.toArray n) ∧ ∀ v h' tk', (∀ b o, s.heap.get? b = some o → h'.get? b = some o) → handedOut v = pure v → R (.ok (.ret v)) { s with heap := h', toks := tk' }) :=
  Meets.of_wp fun prog w A R s hs => by
    obtain ⟨hp, g, d, tk, os⟩ := s
    obtain ⟨hx, hs⟩ := hs
    have hT : (⟨hp, g, d, tk, os⟩ : Shared).TypeIs (.ref a) "list" := ⟨_, hx, rfl⟩
    have g5 := ga_sub
    have g6 : isSubtype (Value.type "list") (Value.type (".".intercalate ("list.__getitem__".cutAt '.').dropLast)) = pure true := by
      rw [show ".".intercalate ("list.__getitem__".cutAt '.').dropLast = "list" from by decide +kernel]
      exact ga_sub
    unfold Builtin.«method_descriptor.__get__»
    repeat (any_goals (first | assumption | wp_step))
    exact ⟨_, rfl, hs _ _ _ (fun b o e => Heap.get?_push_of_some _ e) rfl⟩
theorem meets_gi (a : Addr) (us : List Value) (n : Nat) (u : Tok) :
    Meets (Builtin.«object.__getattribute__» ⟨[.ref a, .str (Str.ofString "__getitem__") u], []⟩) (fun _ R s => s.heap.get? a = some (listOf us.toArray n) ∧ ∀ v h' tk', (∀ b o, s.heap.get? b = some o → h'.get? b = some o) → handedOut v = pure v → R (.ok (.ret v)) { s with heap := h', toks := tk' }) :=
  Meets.of_wp fun prog w A R s hs => by
    obtain ⟨hp, g, d, tk, os⟩ := s
    obtain ⟨hx, hs⟩ := hs
    have hT : (⟨hp, g, d, tk, os⟩ : Shared).TypeIs (.ref a) "list" := ⟨_, hx, rfl⟩
    have f5 := slot_list_getitem.lookup
    have g1 := ga_kind
    have g2 := ga_get
    have g3 := ga_set
    have g4 := ga_del
    unfold Builtin.«object.__getattribute__»
    repeat (any_goals (first | assumption | ((with_reducible show wpAny _ _ (call _ _ _) _ _ _); refine call_meets (T := "method_descriptor") (rest := [.ref a, .type "list"]) ga_slot ga_kind ga_entry (ga_args _ _ _) (meets_mdget a us n) ⟨hx, fun v h' tk' hk hv => ?_⟩; dsimp only [wants]) | wp_step))
    exact ⟨_, rfl, hs _ _ _ hk hv⟩
theorem my_hasattr {prog : Program} {w : World} {A : Around} {E : Value → Shared → Prop} {s : Shared} {a : Addr} {us : List Value} {n : Nat} {t : Tok} {Q : Value → Shared → Prop} (hx : s.heap.get? a = some (listOf us.toArray n))
    (h : ∀ h' tk', (∀ b o, s.heap.get? b = some o → h'.get? b = some o) → Q (.bool true) { s with heap := h', toks := tk' }) :
    wpAny (model prog w) A (call (.builtin "hasattr") [.ref a, .str (Str.ofString "__getitem__") t]) Q E s := by
  obtain ⟨hp, g, d, tk, os⟩ := s
  have hT : ∀ tk', (⟨hp, g, d, tk', os⟩ : Shared).TypeIs (.ref a) "list" := fun _ => ⟨_, hx, rfl⟩
  have f3 := F.slot_list_getattribute.lookup
  have f4 := F.slot_list_getattribute.bind (.ref a)
  have f5 := slot_list_getitem.lookup
  have f6 : isSubtype (W.listOf us.toArray n).cls (Value.type "module") = pure false := by show isSubtype (.type "list") _ = _; rw [isSubtype_type]; kernel_rfl
  refine call_function_entry (b := Builtin.«hasattr») (by decide +kernel) (by decide +kernel) (entryFor_of_fast (by kernel_rfl)) (by kernel_rfl) ?_
  unfold Builtin.«hasattr»
  repeat (any_goals (first | assumption | exact hT _ | ((with_reducible show wpAny _ _ (call (Value.builtin "list.__getattribute__") _ _) _ _ _); refine call_meets F.slot_list_getattribute (hT _) am_entry_list_getattribute (F.args_list_getattribute_2 _ _) (meets_gi a us n _) ⟨hx, fun v h' tk' hk hv => ?_⟩; dsimp only [wants]) | wp_step))
  exact ⟨_, rfl, h _ _ hk⟩
theorem fr_keeps {h₀ h h' : Heap} {L : Addr} {m : Str → Option Value} (F : Fr h₀ L h m) (hk : ∀ b o, h.get? b = some o → h'.get? b = some o) : Fr h₀ L h' m := ⟨F.ns.keeps hk, fun b o e => hk _ _ (F.keep b o e), F.above⟩
theorem news_keeps {h₀ h h' : Heap} {L : Addr} {news : List (Addr × Obj)} (N : News h₀ L h news) (hk : ∀ b o, h.get? b = some o → h'.get? b = some o) : News h₀ L h' news := fun p hp => ⟨hk _ _ (N p hp).1, (N p hp).2⟩
theorem hasattr_N {prog : Program} {w : World} {A : Around} {E : Value → Shared → Prop} {s : Shared} {h₀ : Heap} {L a : Addr} {m : Str → Option Value} {news : List (Addr × Obj)} {us : List Value} {n : Nat} {t : Tok} {Q : Value → Shared → Prop}
    (F : Fr h₀ L s.heap m) (N : News h₀ L s.heap news) (hm : (a, listOf us.toArray n) ∈ news)
    (h : ∀ h' tk', Fr h₀ L h' m → News h₀ L h' news → Q (.bool true) { s with heap := h', toks := tk' }) :
    wpAny (model prog w) A (call (.builtin "hasattr") [.ref a, .str (Str.ofString "__getitem__") t]) Q E s :=
  my_hasattr (N _ hm).1 fun h' tk' hk => h h' tk' (fr_keeps F hk) (news_keeps N hk)

end
section
theorem words_concat : True := by
  k_with_none
  (k_with "CJ" => (with_reducible first | assumption | exact cj0 ‹_› | exact cj1 ‹_› | exact cl1 ‹_› | exact cj2 ‹_› | exact cl2 ‹_› | exact cj3 ‹_› | exact cl3 ‹_› | exact cj4 ‹_› | exact cl4 ‹_› | exact cj5 ‹_› | exact cl5 ‹_› | exact cj6 ‹_› | exact cl6 ‹_› | exact cj7 ‹_› | exact cl7 ‹_› | exact cj8 ‹_› | exact cl8 ‹_› | exact cj9 ‹_› | exact cl9 ‹_› | exact cj10 ‹_› | exact cl10 ‹_› | exact cj11 ‹_› | exact cl11 ‹_› | exact cj12 ‹_› | exact cl12 ‹_›))
  (k_with "k_ne" => (((refine neN ?_); (try dsimp only); first | exact Nat.ne_of_gt (by k_extra "CJ") | exact Nat.ne_of_lt (by k_extra "CJ") | k_extra "CJ" | exact Ne.symm (by k_extra "CJ"))))
  (k_with "ktr_room" => (first | exact rm0 ‹_› | exact rm1 ‹_› rfl | exact rm2 ‹_› rfl | exact rm3 ‹_› rfl))
  (k_with "ktr_units" => (first | exact rm0 ‹_› | exact rm1 ‹_› rfl | exact rm2 ‹_› rfl | exact rm3 ‹_› rfl))
  (k_with "k_mem" => (first | exact List.Mem.head _ | (refine' List.Mem.tail _ ?_; k_mem) | (show (_ : Addr × Obj) ∈ (_ : List (Addr × Obj)); with_reducible assumption)))
  (k_with "BINDS" => (first | exact BindsTo.of_eq rfl | exact binds_K (by k_in) rfl (by k_is) rfl rfl rfl | (refine' kp_binds ?zzkx ?zzke; (case zzkx => k_in); (case zzke => exact fun _ => rfl))))
  (k_with "ENTER" => ((refine wpAny_call ?_; first | k_dflt (refine' code_def ?zzk1 ?zzk2 ?zzk3 ?zzk4 ?zzk5 ?zzkA ?zzkF ?zzkK ?zzk6 ?zzk7 ?zzk8 ?zzk9 ?zzkB ?_ ?zzc2 ?zzc3 ?zzc4 ?zzc5; (case zzkA => exact rfl); (case zzkF => exact rfl); (case zzkK => assumption); (case zzk1 => k_asm); (case zzk2 => k_asm); (case zzk3 => k_asm); (case zzk4 => k_asm); (case zzk5 => k_asm); (case zzk6 => k_is); (case zzk7 => k_is); (case zzk8 => ktr_room); (case zzk9 => walk_at "BINDS"); (case zzc5 => decide); (case zzkB => exact locs rfl); (case zzc2 => exact rfl); (case zzc3 => exact rfl); (case zzc4 => exact rfl); k_whole; (first | (k_extra "EPSENT"; refine no_implicit_lambda% (all_eps3 (i := by k_extra "NE9") ?_); generalize pj0 _ = g', pj1 _ = L', pj2 _ = h'; intro FG' F' N' B' X' T') | intro g' L' h' FG' F' N' B' X' T'); (try dsimp only); (try k_lift B'); (try k_fold)) | k_dflt (refine' code_defC ?zzk1 ?zzk2 ?zzk3 ?zzk4 ?zzk5 ?zzkA ?zzkF ?zzkK ?zzk6 ?zzk7 ?zzk8 ?zzk9 ?zzkB ?zzkD ?_ ?zzc2 ?zzc3 ?zzc4; (case zzkA => exact rfl); (case zzkF => exact rfl); (case zzkK => assumption); (case zzk1 => k_asm); (case zzk2 => k_asm); (case zzk3 => k_asm); (case zzk4 => k_asm); (case zzk5 => k_asm); (case zzk6 => k_is); (case zzk7 => k_is); (case zzk8 => ktr_room); (case zzk9 => walk_at "BINDS"); (case zzkB => exact rfl); (case zzkD => decide +kernel); (case zzc2 => exact rfl); (case zzc3 => exact rfl); (case zzc4 => exact rfl); k_whole; (first | (k_extra "EPSENT"; refine no_implicit_lambda% (all_eps5 (i := by k_extra "NE9") ?_); generalize pj0 _ = g', pj1 _ = L', pj2 _ = h', pj3 _ = tk', pj4 _ = cells'; intro FG' F' N' Y' B' X' T' l1) | intro g' L' h' tk' cells' FG' F' N' Y' B' X' T' l1); (try k_lt l1); k_cells Y'; (try simp only [List.cons_append, List.nil_append] at N'); (try dsimp only); (try k_lift B'); (try k_fold)))))
  (k_with "callWith ref" => ((k_here; k_dflt (first | (refine' callWith_K ?zzk1 ?zzk2 ?_; (case zzk1 => k_asm); (case zzk2 => k_is); k_whole) | (refine' callWith_KW ?zzk1 ?zzk2 ?zzk3 ?_; (case zzk1 => k_asm); (case zzk2 => k_is); (case zzk3 => exact rfl); k_whole)))))
  (k_with "call builtin:len" => ((k_here; (with_reducible show wpAny _ _ (call (Value.builtin "len") [Value.ref _]) _ _ _); k_dflt (refine' my_len ?zzk1 ?zzk2 ?zzk3 ?_; (case zzk1 => k_asm); (case zzk2 => k_mem); (case zzk3 => first | assumption | omega); k_whole))))
  (k_with "callWith ref" => ((k_here; k_dflt (refine' callWith_Fn1 ?zzkf ?_; (case zzkf => with_reducible assumption); k_whole))))
  (k_with "And" => (((with_reducible show IsFn _ _ ∧ _); refine ⟨KeyFn.get (by with_reducible assumption) (by k_in) (by k_asm), ?_⟩; try dsimp only [List.nil_append, List.cons_append])))
  exact True.intro
/-- a list's slice -/
theorem my_slice {prog : Program} {w : World} {A : Around} {E : Value → Shared → Prop} {s : Shared} {h₀ : Heap} {L l : Addr} {m : Str → Option Value} {news : List (Addr × Obj)} {value slice : PySem.Expr} {us : List Value} {c : Nat} {vl vu : Value} {lo hi : Option Int} {Q : Value → Shared → Prop}
    (F : Fr h₀ L s.heap m) (N : News h₀ L s.heap news) (hm : (l, listOf us.toArray c) ∈ news) (hfit : us.length < 1000) (pl : IsPart vl lo) (pu : IsPart vu hi)
    (h : ∀ D h', Fr h₀ L h' m → News h₀ L h' ((D, listOf (kms_pick us lo hi).toArray 0) :: news) → (∀ p ∈ news, p.1 < D) → Q (.ref D) { s with heap := h' })
    (hs : subscripted slice false (.ref l) (.ref s.heap.objs.size) = operate [.ref s.heap.objs.size, .ref l] (getItem (.ref l) (.ref s.heap.objs.size))) (ht : ∀ r, letTemporaryGo value (.ref l) r = pure ()) :
    wpAny (model prog w) A (subscriptTail value slice (.ref l) (.ref s.heap.objs.size)) Q E { s with heap := s.heap.push { cls := .type "slice", data := .fields #[vl, vu, .none] } } :=
  kms_slice_lit F N (its := us.toArray) ⟨_, (N _ hm).1, rfl, c, rfl⟩ pl pu rfl h hs ht (by rw [PySem.sizeLine_eq, List.size_toArray]; omega)
theorem pick_from {us : List Value} {x : Int} (h : 0 ≤ x) : kms_pick us (some x) none = us.drop x.toNat := by
  have h1 : ¬ x < 0 := by omega
  unfold kms_pick kms_lo kms_hi
  simp only [if_neg h1]
  rw [kmk_drop_min, List.take_of_length_le]
  rw [List.length_drop]
  omega
theorem pick_upto {us : List Value} {x : Int} (h : 0 ≤ x) : kms_pick us none (some x) = us.take x.toNat := by
  have h1 : ¬ x < 0 := by omega
  unfold kms_pick kms_lo kms_hi
  simp only [if_neg h1]
  rw [List.drop_zero, Nat.sub_zero, kmk_take_min]
theorem my_add {prog : Program} {w : World} {A : Around} {E : Value → Shared → Prop} {s : Shared} {h₀ : Heap} {L l l2 : Addr} {m : Str → Option Value} {news : List (Addr × Obj)} {us us2 : List Value} {n n2 : Nat} {Q : Value → Shared → Prop}
    (F : Fr h₀ L s.heap m) (N : News h₀ L s.heap news) (hl : (l, listOf us.toArray n) ∈ news) (hl2 : (l2, listOf us2.toArray n2) ∈ news) (hz : us.length < 1000) (hz2 : us2.length < 1000)
    (h : ∀ r h', Fr h₀ L h' m → News h₀ L h' ((r, listOf (us ++ us2).toArray 0) :: news) → (∀ p ∈ news, p.1 < r) → Q (.ref r) { s with heap := h' }) :
    wpAny (model prog w) A (binaryOp .Add (.ref l) (.ref l2)) Q E s :=
  PyProof.Rows.add_lists (vs := us) (ws := us2) (hsz := by rw [PySem.sizeLine_eq]; omega) F N ⟨_, (N _ hl).1, rfl, n, rfl⟩ ⟨_, (N _ hl2).1, rfl, n2, rfl⟩ fun h' F' N' => h _ h' F' N' fun p hp => Heap.lt_size (N p hp).1
theorem words_concat_1 : True := by
  (k_with "binaryOp Add ref ref" => ((k_here; (with_reducible show wpAny _ _ (binaryOp _ (Value.ref _) (Value.ref _)) _ _ _); k_dflt (refine' my_add ?zzF ?zzN ?zza ?zzb ?zzz ?zzy ?_; (case zzF => k_asm); (case zzN => k_asm); (case zza => k_mem); (case zzb => k_mem); (case zzz => with_reducible assumption); (case zzy => with_reducible assumption); k_whole); intro D' h' F' N' l1; (try k_lt l1))))
  (k_with "call builtin:hasattr" => ((k_here; k_dflt (refine' hasattr_N ?zzk1 ?zzk2 ?zzk3 ?_; (case zzk1 => k_asm); (case zzk2 => k_asm); (case zzk3 => k_mem); k_whole); intro h9 tk9 F9 N9; (try dsimp only); (try k_fold))))
  exact True.intro
theorem c_concat {prog : Program} {w : World} {loose : List Str} {mean : ExcName → Option Value} {mg mb : Str → Option Value}
    {dp un : Nat} {gd : Option (List Code)} {cn : Str} {cs : Scope} {a : Addr} {ccd : Value} {cl : List (Str × Addr)} {outer : List Env} {A₀ : Around} {base h₀ : Heap} {L : Addr} {m : Str → Option Value} {s : Shared} {Q E : Value → Shared → Prop} {news : List (Addr × Obj)}
    {l l2 : Addr} {n n2 : Nat} {us us2 : List Value}
    (B : Below A₀ base outer h₀) (F : Fr h₀ L s.heap m) (X : (hd.heap_39 w.params).In h₀) (N : News h₀ L s.heap news) (T : Top topProg loose mean mg mb h₀) (hk : cs.kind = .function)
    (hdp : dp + 1 < recursionLimit) (hun : un + 32 < cLine) (hl : (l, listOf us.toArray n) ∈ news) (hl2 : (l2, listOf us2.toArray n2) ∈ news) (hz : us.length < 1000) (hz2 : us2.length < 1000)
    (hret : ∀ r h' tk', Fr h₀ L h' m → News h₀ L h' ((r, listOf (us ++ us2).toArray 0) :: news) → (∀ p ∈ news, p.1 < r) → Q (.ref r) { s with heap := h', toks := tk' }) :
    wpAny (model prog w) (ktrTop dp un gd cn cs L a ccd cl outer) (call (.ref 99) [.ref l, .ref l2]) Q E s := by
  walk_at "ENTER"
  k_steps
  exact hret _ _ _ (by assumption) (by assumption) (by first | assumption | exact tb_ltOf (by assumption))
/-- an item of a tuple of the ledger at a written place -/
theorem my_tupC {prog : Program} {w : World} {A : Around} {E : Value → Shared → Prop} {s : Shared} {h₀ : Heap} {L l : Addr} {news : List (Addr × Obj)} {us : List Value} {c : Nat} {value slice : PySem.Expr} {k : Int} {u : Tok} {j : Nat} {v : Value} {Q : Value → Shared → Prop} (N : News h₀ L s.heap news) (hm : (l, ({ cls := .type "tuple", data := .seq us.toArray c } : Obj)) ∈ news)
    (h0 : -(2 ^ 63) ≤ k) (h1 : k < 2 ^ 63) (hj : seqIndex? k us.length = some j) (hx : us[j]? = some v) (h : Q v s)
    (hs : subscripted slice false (.ref l) (.int k u) = operate [.ref l, .int k u] (getItem (.ref l) (.int k u)) := by with_unfolding_all rfl) :
    wpAny (model prog w) A (subscriptTail value slice (.ref l) (.int k u)) Q E s :=
  item_tupleT (⟨_, (N _ hm).1, rfl, c, rfl⟩ : IsTup s.heap l us.toArray) h0 h1 (by simpa using hj) (by simpa using hx) h hs

end
section
theorem words_starts : True := by
  k_with_none
  (k_with "CJ" => (with_reducible first | assumption | exact cj0 ‹_› | exact cj1 ‹_› | exact cl1 ‹_› | exact cj2 ‹_› | exact cl2 ‹_› | exact cj3 ‹_› | exact cl3 ‹_› | exact cj4 ‹_› | exact cl4 ‹_› | exact cj5 ‹_› | exact cl5 ‹_› | exact cj6 ‹_› | exact cl6 ‹_› | exact cj7 ‹_› | exact cl7 ‹_› | exact cj8 ‹_› | exact cl8 ‹_› | exact cj9 ‹_› | exact cl9 ‹_› | exact cj10 ‹_› | exact cl10 ‹_› | exact cj11 ‹_› | exact cl11 ‹_› | exact cj12 ‹_› | exact cl12 ‹_›))
  (k_with "k_ne" => (((refine neN ?_); (try dsimp only); first | exact Nat.ne_of_gt (by k_extra "CJ") | exact Nat.ne_of_lt (by k_extra "CJ") | k_extra "CJ" | exact Ne.symm (by k_extra "CJ"))))
  (k_with "ktr_room" => (first | exact rm0 ‹_› | exact rm1 ‹_› rfl | exact rm2 ‹_› rfl | exact rm3 ‹_› rfl))
  (k_with "ktr_units" => (first | exact rm0 ‹_› | exact rm1 ‹_› rfl | exact rm2 ‹_› rfl | exact rm3 ‹_› rfl))
  (k_with "k_mem" => (first | exact List.Mem.head _ | (refine' List.Mem.tail _ ?_; k_mem) | (show (_ : Addr × Obj) ∈ (_ : List (Addr × Obj)); with_reducible assumption)))
  (k_with "BINDS" => (first | exact BindsTo.of_eq rfl | exact binds_K (by k_in) rfl (by k_is) rfl rfl rfl | (refine' kp_binds ?zzkx ?zzke; (case zzkx => k_in); (case zzke => exact fun _ => rfl))))
  (k_with "callWith ref" => ((k_here; k_dflt (first | (refine' callWith_K ?zzk1 ?zzk2 ?_; (case zzk1 => k_asm); (case zzk2 => k_is); k_whole) | (refine' callWith_KW ?zzk1 ?zzk2 ?zzk3 ?_; (case zzk1 => k_asm); (case zzk2 => k_is); (case zzk3 => exact rfl); k_whole)))))
  (k_with "call builtin:len" => ((k_here; (with_reducible show wpAny _ _ (call (Value.builtin "len") [Value.ref _]) _ _ _); k_dflt (refine' my_len ?zzk1 ?zzk2 ?zzk3 ?_; (case zzk1 => k_asm); (case zzk2 => k_mem); (case zzk3 => first | assumption | omega); k_whole))))
  (k_with "callWith ref" => ((k_here; k_dflt (refine' callWith_Fn1 ?zzkf ?_; (case zzkf => with_reducible assumption); k_whole))))
  (k_with "And" => (((with_reducible show IsFn _ _ ∧ _); refine ⟨KeyFn.get (by with_reducible assumption) (by k_in) (by k_asm), ?_⟩; try dsimp only [List.nil_append, List.cons_append])))
  (k_with "SAME" => (first | exact Same.refl _ _ | (intros z h9; (simp only [List.contains_cons, List.contains_nil, Bool.or_false, Bool.or_eq_false_iff, beq_eq_false_iff_ne, ne_eq] at h9); simp [h9])))
  (k_with "SUBS" => (first | exact List.forall_mem_nil _ | (refine List.forall_mem_cons.mpr ⟨by k_mem, ?_⟩; walk_at "SUBS")))
  (k_with "ENTERG" => ((refine wpAny_call ?_; k_dflt (refine' code_sub (rest := []) ?zzk1 ?zzk2 ?zzk3 ?zzk4 ?zzk5 ?zzkD ?zzkR ?zzkA ?zzkF ?zzkK ?zzk6 ?zzk7 ?zzk8 ?zzk9 ?zzkB ?_ ?zzc2 ?zzc3 ?zzc4 ?zzc5; (case zzkA => exact rfl); (case zzkF => exact rfl); (case zzkK => assumption); (case zzk1 => k_asm); (case zzk2 => k_asm); (case zzk3 => k_asm); (case zzk4 => k_asm); (case zzk5 => k_asm); (case zzkD => exact fun _ hq => hq); (case zzkR => exact fun _ hq => nomatch hq); (case zzk6 => k_is); (case zzk7 => k_is); (case zzk8 => ktr_room); (case zzk9 => walk_at "BINDS"); (case zzc5 => decide); (case zzkB => exact locs rfl); (case zzc2 => exact rfl); (case zzc3 => exact rfl); (case zzc4 => exact rfl); k_whole; (first | (k_extra "EPSENT"; refine no_implicit_lambda% (all_eps3 (i := by k_extra "NE9") ?_); generalize pj0 _ = g', pj1 _ = L', pj2 _ = h'; intro FG' F' N' B' X' T' _ _) | intro g' L' h' FG' F' N' B' X' T' _ _); (try ((rename CodeHd _ _ _ => hC8); (have hC9 := hC8.keeps FG'.keep))); (try dsimp only); (try k_lift B'); (try k_fold)))))
  (k_with "CompEnd" => ((k_dflt (refine' compEnd_same ?zzF ?zzN ?zzoff ?zzsrc ?_; (case zzF => k_asm); (case zzN => k_asm); (case zzoff => first | assumption | ((simp only [LCg.Off3, and_true]); first | done | assumption)); (case zzsrc => lcg_src)))))
  exact True.intro
/-- an item of a list of ints counted from behind -/
theorem my_last {prog : Program} {w : World} {A : Around} {E : Value → Shared → Prop} {s : Shared} {h₀ : Heap} {L l : Addr} {news : List (Addr × Obj)} {us : List Value} {ns : List Int} {c : Nat} {value slice : PySem.Expr} {u : Tok} {Q : Value → Shared → Prop} (N : News h₀ L s.heap news) (hm : (l, listOf us.toArray c) ∈ news)
    (hi : IntsAre us ns) (h1 : 0 < ns.length) (hfit : ns.length < 1000) (h : ∀ t, Q (.int (ns.getD (ns.length - 1) 0) t) s)
    (hs : subscripted slice false (.ref l) (.int (-1) u) = operate [.ref l, .int (-1) u] (getItem (.ref l) (.int (-1) u)) := by with_unfolding_all rfl) :
    wpAny (model prog w) A (subscriptTail value slice (.ref l) (.int (-1) u)) Q E s := by
  have e := hi.length
  have hl : s.heap.IsList l us.toArray := ⟨_, (N _ hm).1, rfl, c, rfl⟩
  have hx : us[us.length - 1]? = some (us[us.length - 1]'(by omega)) := List.getElem?_eq_getElem _
  obtain ⟨t, ht⟩ := ints_at hi hx
  refine tail_any hl.typeIs slot_list_getitem.lookup (wpAny_getItem_list_neg hl (x := .int (ns.getD (ns.length - 1) 0) t) (by decide) (by rw [List.size_toArray]; omega) (by decide) ?_ (h t)) hs
  rw [List.size_toArray, List.getElem?_toArray, show (-1 + (us.length : Int)).toNat = us.length - 1 by omega, hx, ht, e]
/-- the places at which the words begin, as the text lays them out -/
def stGo (ls os : List Int) : Nat → List Int
  | 0 => [0]
  | i + 1 => stGo ls os i ++ [(stGo ls os i).getD ((stGo ls os i).length - 1) 0 + 1 * 2 ^ (mx ls - ls.getD (os.getD i 0).toNat 0).toNat]
theorem stGo_length (ls os : List Int) : ∀ i, (stGo ls os i).length = i + 1
  | 0 => rfl
  | i + 1 => by rw [stGo, List.length_append, stGo_length ls os i]; rfl
theorem starts_at {prog : Program} {w : World} {A : Around} {E : Value → Shared → Prop} {s : Shared} {env : Env} {h₀ : Heap} {target : PySem.Expr} {body orelse : List Stmt} {Q : Flow → Shared → Prop} {d st : Addr} {ds sv : List Value} {ls os : List Int} {n k : Nat} {m : Str → Option Value} {news : List (Addr × Obj)}
    (hh : A.handled = none) (F : Fr h₀ env.locals s.heap m) (N : News h₀ env.locals s.heap ((d, listOf ds.toArray n) :: (st, listOf sv.toArray k) :: news)) (hi : IntsAre ds (os.take 4)) (h5 : os.length = 5) (hs : IntsAre sv [0])
    (step : ∀ (i : Nat) (o : Int) (t : Tok) (I : Addr) (oI : Obj) (z : Str → Option Value) (h₁ : Heap) (tk₁ : Nat) (sv : List Value) (k : Nat), i < 4 → os[i]? = some o → IntsAre sv (stGo ls os i) → d < I → st < I → (∀ p ∈ news, p.1 < I) →
      Fr h₀ env.locals h₁ (fun y => if placeS.contains y then z y else m y) → News h₀ env.locals h₁ ((I, oI) :: (d, listOf ds.toArray n) :: (st, listOf sv.toArray k) :: news) →
      wpAny (model prog w) A (assign target env (.int o t)) (fun _ s₃ => wpAny (model prog w) A (execs body env) (StepT h₀ env.locals [I] [(I, oI)] [(d, listOf ds.toArray n)] (fun _ m' nl => Same placeS m m' ∧ ∃ sv' k', nl = (d, listOf ds.toArray n) :: (st, listOf sv'.toArray k') :: news ∧ IntsAre sv' (stGo ls os (i + 1))) { s with heap := h₁, toks := tk₁ } Q) E s₃) E { s with heap := h₁, toks := tk₁ })
    (fin : ∀ (h' : Heap) (tk : Nat) (z : Str → Option Value) (sv : List Value) (k : Nat), IntsAre sv (stGo ls os 4) →
      Fr h₀ env.locals h' (fun y => if placeS.contains y then z y else m y) → News h₀ env.locals h' ((d, listOf ds.toArray n) :: (st, listOf sv.toArray k) :: news) → wpAny (model prog w) A (execs orelse env) Q E { s with heap := h', toks := tk })
    (hE : PassesOwn (model prog w) A env E := by passes_own) : LoopAt prog w A env target body orelse Q E (.ref d) s := by
  refine LoopAt.list (fun i _ m' nl => Same placeS m m' ∧ ∃ (sv : List Value) (k : Nat), nl = (d, listOf ds.toArray n) :: (st, listOf (List.toArray sv) k) :: news ∧ IntsAre sv (stGo ls os i)) hh F N (.head _) ⟨Same.refl _ _, sv, k, rfl, hs⟩ ?_ ?_ (fun _ _ _ _ _ h _ => h) hE
  · rintro i v I o m₁ nl h₁ tk₁ hx ⟨hS, sv, k, rfl, x1⟩ hle _ hI hlt F₁ N₁
    obtain ⟨x, t, rfl, hk⟩ := ints_get hi hx
    rw [List.getElem?_take] at hk
    split at hk
    · rename_i h4
      rw [hS.eq] at F₁
      exact step i x t I o m₁ h₁ tk₁ sv k h4 hk x1 (hlt _ (.head _)) (hlt _ (.tail _ (.head _))) (fun p hp => hlt p (.tail _ (.tail _ hp))) F₁ N₁
    · exact nomatch hk
  · rintro h' tk m' nl ⟨hS, sv, k, rfl, x1⟩ _ _ F' N'
    rw [hS.eq] at F'
    have e4 : ds.length = 4 := by rw [hi.length, List.length_take, h5]; rfl
    rw [e4] at x1
    exact fin h' tk m' sv k x1 F' N'
theorem getD_mem : ∀ {ls : List Int} {i : Nat}, i < ls.length → ls.getD i 0 ∈ ls
  | [], _, h => absurd h (Nat.not_lt_zero _)
  | _ :: _, 0, _ => .head _
  | _ :: _, i + 1, h => by
    simp only [List.getD_cons_succ]
    exact .tail _ (getD_mem (Nat.lt_of_succ_lt_succ h))
theorem mx_bound {B : Int} : ∀ (ls : List Int) (b : Int), b ≤ B → (∀ x ∈ ls, x ≤ B) → ls.foldl max b ≤ B
  | [], _, h, _ => h
  | x :: r, b, h, k => mx_bound r (max b x) (by have := k x (.head _); omega) fun y hy => k y (.tail _ hy)
theorem shift_ok {ls : List Int} {o : Int} (hpos : ∀ x ∈ ls, 0 ≤ x ∧ x ≤ 1000) (h5 : ls.length = 5) (h0 : 0 ≤ o) (h1 : o < 5) : 0 ≤ mx ls - ls.getD o.toNat 0 ∧ mx ls - ls.getD o.toNat 0 ≤ 1000 := by
  have hm := getD_mem (ls := ls) (i := o.toNat) (by omega)
  have a := (mx_le ls 0).2 _ hm
  have b := mx_bound (B := 1000) ls 0 (by decide) fun x hx => (hpos x hx).2
  have c := hpos _ hm
  change _ ≤ mx ls at a
  change mx ls ≤ _ at b
  omega
theorem words_starts_1 : True := by
  (k_with "k_all" => (with_reducible assumption))
  (k_with "SUBL" => ((intros p9 h9; (repeat (first | exact h9 | refine List.Mem.tail _ ?_)))))
  (k_with "exec For Name Subscript cons nil" => ((k_here; k_dflt (refine' For_at ?_); k_whole)))
  (k_with "call ref" => ((k_here; first | (k_dflt (refine' c_sub ?zzk1 ?zzk2 ?zzk3 ?zzk4 ?zzk5 ?zzkK ?zzkd ?zzku ?_; (case zzk1 => k_asm); (case zzk2 => k_asm); (case zzk3 => k_asm); (case zzk4 => k_asm); (case zzk5 => k_asm); (case zzkK => first | exact rfl | (rename (Scope.kind _ = ScopeKind.function) => hk9; exact hk9)); (case zzkd => ktr_room); (case zzku => ktr_units); k_whole); intro t9 h9 tk9 F9 N9; (try dsimp only); (try k_fold)) | (k_dflt (refine' c_add ?zzk1 ?zzk2 ?zzk3 ?zzk4 ?zzk5 ?zzkK ?zzkd ?zzku ?_; (case zzk1 => k_asm); (case zzk2 => k_asm); (case zzk3 => k_asm); (case zzk4 => k_asm); (case zzk5 => k_asm); (case zzkK => first | exact rfl | (rename (Scope.kind _ = ScopeKind.function) => hk9; exact hk9)); (case zzkd => ktr_room); (case zzku => ktr_units); k_whole); intro t9 h9 tk9 F9 N9; (try dsimp only); (try k_fold)) | (k_dflt (refine' c_lsh ?zzk1 ?zzk2 ?zzk3 ?zzk4 ?zzk5 ?zzkK ?zzkd ?zzku ?zzky ?zzkz ?zzkx ?_; (case zzk1 => k_asm); (case zzk2 => k_asm); (case zzk3 => k_asm); (case zzk4 => k_asm); (case zzk5 => k_asm); (case zzkK => first | exact rfl | (rename (Scope.kind _ = ScopeKind.function) => hk9; exact hk9)); (case zzkd => ktr_room); (case zzku => ktr_units); (case zzky => assumption); (case zzkz => omega); (case zzkx => first | decide | assumption); k_whole); intro t9 h9 tk9 F9 N9; (try dsimp only); (try k_fold)) | (k_dflt (refine' c_rsh ?zzk1 ?zzk2 ?zzk3 ?zzk4 ?zzk5 ?zzkK ?zzkd ?zzku ?zzky ?_; (case zzk1 => k_asm); (case zzk2 => k_asm); (case zzk3 => k_asm); (case zzk4 => k_asm); (case zzk5 => k_asm); (case zzkK => first | exact rfl | (rename (Scope.kind _ = ScopeKind.function) => hk9; exact hk9)); (case zzkd => ktr_room); (case zzku => ktr_units); (case zzky => assumption); k_whole); intro t9 h9 tk9 F9 N9; (try dsimp only); (try k_fold)) | (k_dflt (refine' c_and ?zzk1 ?zzk2 ?zzk3 ?zzk4 ?zzk5 ?zzkK ?zzkd ?zzku ?_; (case zzk1 => k_asm); (case zzk2 => k_asm); (case zzk3 => k_asm); (case zzk4 => k_asm); (case zzk5 => k_asm); (case zzkK => first | exact rfl | (rename (Scope.kind _ = ScopeKind.function) => hk9; exact hk9)); (case zzkd => ktr_room); (case zzku => ktr_units); k_whole); intro t9 h9 tk9 F9 N9; (try dsimp only); (try k_fold)) | (k_dflt (refine' c_or ?zzk1 ?zzk2 ?zzk3 ?zzk4 ?zzk5 ?zzkK ?zzkd ?zzku ?_; (case zzk1 => k_asm); (case zzk2 => k_asm); (case zzk3 => k_asm); (case zzk4 => k_asm); (case zzk5 => k_asm); (case zzkK => first | exact rfl | (rename (Scope.kind _ = ScopeKind.function) => hk9; exact hk9)); (case zzkd => ktr_room); (case zzku => ktr_units); k_whole); intro t9 h9 tk9 F9 N9; (try dsimp only); (try k_fold)))))
  exact True.intro
theorem c_starts {prog : Program} {w : World} {loose : List Str} {mean : ExcName → Option Value} {mg mb : Str → Option Value}
    {dp un : Nat} {gd : Option (List Code)} {cn : Str} {cs : Scope} {a : Addr} {ccd : Value} {cl : List (Str × Addr)} {outer : List Env} {A₀ : Around} {base h₀ : Heap} {L : Addr} {m : Str → Option Value} {s : Shared} {Q E : Value → Shared → Prop} {news : List (Addr × Obj)}
    {l ol : Addr} {n no : Nat} {us ov : List Value} {ls os : List Int}
    (B : Below A₀ base outer h₀) (F : Fr h₀ L s.heap m) (X : (hd.heap_39 w.params).In h₀) (N : News h₀ L s.heap news) (T : Top topProg loose mean mg mb h₀) (hk : cs.kind = .function)
    (hdp : dp + 10 < recursionLimit) (hun : un + 300 < cLine) (hl : (l, listOf us.toArray n) ∈ news) (hi : IntsAre us ls) (h5 : ls.length = 5) (hol : (ol, listOf ov.toArray no) ∈ news) (hio : IntsAre ov os) (h5o : os.length = 5) (hro : ∀ o ∈ os, 0 ≤ o ∧ o < 5) (hpos : ∀ x ∈ ls, 0 ≤ x ∧ x ≤ 1000)
    (hret : ∀ r sv k h' tk', Fr h₀ L h' m → News h₀ L h' ((r, listOf (List.toArray sv) k) :: news) → (∀ p ∈ news, p.1 < r) → IntsAre sv (stGo ls os 4) → Q (.ref r) { s with heap := h', toks := tk' }) :
    wpAny (model prog w) (ktrTop dp un gd cn cs L a ccd cl outer) (call (.ref 189) [.ref l, .ref ol]) Q E s := by
  k_with "EPSON" => skip
  k_with "NE9" => repeat (with_reducible first | exact neSh | exact neAr | exact neEx | exact neWo | refine neP ?_ ?_ | infer_instance)
  k_with "RangeRest" => first
    | ((with_unfolding_all refine RangeRest.succ ?_); intro t' h' tk' F' N')
    | ((with_unfolding_all refine RangeRest.zero ?_); intro h' tk' F' N')
  k_with "CompRest" => first
    | ((with_unfolding_all refine LCg.CompRest.succ ?_); (first | (k_extra "EPSON"; refine no_implicit_lambda% (all_eps10 (i := by k_extra "NE9") ?_); generalize pj0 _ = v', pj1 _ = I', pj2 _ = oI', pj3 _ = C', pj4 _ = oC', pj5 _ = D', pj6 _ = m', pj7 _ = h', pj8 _ = tk', pj9 _ = E'; intro hv' hC' hx' F' N' off' ne') | intro v' I' oI' C' oC' D' m' h' tk' E' hv' hC' hx' F' N' off' ne'); (first | lcg_open hv' | (refine ex_elim hv' ?_; clear hv'; intro t9' hv9'; subst hv9')); (try simp only [LCg.Off3, and_true] at off'))
    | with_unfolding_all refine LCg.CompRest.zero ?_
  k_with "EPS1" => (refine no_implicit_lambda% (all_eps (i := by k_extra "NE9") ?_); generalize eps _ _ = xE9)
  k_with "EPSCELLS" => first
    | (have hY := PyProof.Rows.CellsAre.one Y'; refine ex_elim hY ?_; clear hY; intro o' hE'; obtain ⟨hE', d1'⟩ := hE'; subst hE'; clear Y')
    | (have hY := PyProof.Rows.CellsAre.two Y'; refine ex_elim hY ?_; clear hY; intro o' hY; refine ex_elim hY ?_; clear hY; intro o2' hY; obtain ⟨hE', d1', d2'⟩ := hY; subst hE'; clear Y')
    | (have hY := PyProof.Rows.CellsAre.three Y'; refine ex_elim hY ?_; clear hY; intro o' hY; refine ex_elim hY ?_; clear hY; intro o2' hY; refine ex_elim hY ?_; clear hY; intro o3' hY; obtain ⟨hE', d1', d2', d3'⟩ := hY; subst hE'; clear Y')
  k_with "EPSENT" => skip
  revert B F X N T hk hdp hun hl hi h5 hol hio h5o hro hpos hret
  revert prog w loose mean mg mb dp un gd cn cs a ccd cl outer A₀ base h₀ L m s Q E news l ol n no us ov ls os
  refine no_implicit_lambda% (all_eps24 (i := by k_extra "NE9") ?_); generalize pj0 _ = prog, pj1 _ = w, pj2 _ = loose, pj3 _ = mean, pj4 _ = mg, pj5 _ = mb, pj6 _ = dp, pj7 _ = un, pj8 _ = gd, pj9 _ = cn, pj10 _ = cs, pj11 _ = a, pj12 _ = ccd, pj13 _ = cl, pj14 _ = outer, pj15 _ = A₀, pj16 _ = base, pj17 _ = h₀, pj18 _ = L, pj19 _ = m, pj20 _ = s, pj21 _ = Q, pj22 _ = E, pj23 _ = news; refine no_implicit_lambda% (all_eps8 (i := by k_extra "NE9") ?_); generalize pj0 _ = l, pj1 _ = ol, pj2 _ = n, pj3 _ = no, pj4 _ = us, pj5 _ = ov, pj6 _ = ls, pj7 _ = os
  intros B F X N T hk hdp hun hl hi h5 hol hio h5o hro hpos hret
  (k_with "LoopAt" => ((rename Fr _ _ _ _ => lF'); (rename News _ _ _ _ => lN'); k_dflt (refine' starts_at (os := os) (ls := ls) ?kh lF' lN' ?ki h5o ?ks ?step ?fin; (case kh => exact rfl); (case ki => assumption); (case ks => exact .cons _ _ .nil)); (case' step => (clear lF' lN'; intro i9 o9 t9 I9 oI9 z9 h9 tk9 sv9 k9 hi9 ho9 x9 z1 z2 z3 lF9 lN9; (have hm9 := hro o9 (List.mem_of_getElem? ho9)); (obtain ⟨b1, b2⟩ := shift_ok hpos h5 hm9.1 hm9.2); (have hs9 : sv9.length = i9 + 1 := by rw [x9.length, stGo_length]); k_lt2 z1; k_lt2 z2; (try dsimp only); (try k_fold))); (case' fin => (clear lF' lN'; intro h9 tk9 z9 sv9 k9 x9 lF9 lN9; (try dsimp only); (try k_fold)))))
  (k_with "call builtin:max" => (k_dflt (refine' my_max ?F ?N ?kl hi ?kn ?kp ?kh ?_; (case F => k_asm); (case N => k_asm); (case kl => k_mem); (case kn => (rw [h5]; decide)); (case kp => exact fun x hx => (hpos x hx).1); (case kh => exact rfl); k_whole); intro t8 h8 tk8 F8 N8; (try dsimp only); (try k_fold)))
  (k_with "subscriptTail Name UnaryOp ref int" => (k_dflt (refine' my_last ?N ?kl x9 ?k1 ?k2 ?_; (case N => k_asm); (case kl => k_mem); (case k1 => (rw [stGo_length]; omega)); (case k2 => (rw [stGo_length]; omega))); intro t8))
  (k_with "subscriptTail Name Name ref int" => (k_dflt (refine' my_itemI ?N ?kl hi ?k1 ?k2 ?k3 ?_; (case N => k_asm); (case kl => k_mem); (case k1 => exact hm9.1); (case k2 => (rw [h5]; exact hm9.2)); (case k3 => (rw [h5]; decide))); intro t8))
  walk_at "ENTERG"
  k_steps
  · (rename News _ _ _ _ => lN8)
    intro _
    exact hret _ sv9 k9 _ _ (by assumption) (news_sub lN8 fun p hp => .tail _ hp) (by first | assumption | exact tb_ltOf (by assumption)) x9
  · (rename Fr _ _ _ _ => lF8); (rename News _ _ _ _ => lN8)
    refine StepT.next lF8 lN8 ?_ (by walk_at "SUBS") fun _ => ⟨by walk_at "SAME", _, _, rfl, ?_⟩
    · intro p hp q
      have q := List.mem_singleton.mp q
      rcases List.mem_cons.mp hp with rfl | hp
      · exact Nat.ne_of_lt z1 q
      · rcases List.mem_cons.mp hp with rfl | hp
        · exact Nat.ne_of_lt z2 q
        · exact Nat.ne_of_lt (z3 p hp) q
    · have eo : os.getD i9 0 = o9 := by rw [List.getD_eq_getElem?_getD, ho9]; rfl
      rw [stGo, eo]
      rw [List.concat_eq_append]
      exact x9.append (.cons _ _ .nil)

end
section
theorem words_written : True := by
  k_with_none
  (k_with "CJ" => (with_reducible first | assumption | exact cj0 ‹_› | exact cj1 ‹_› | exact cl1 ‹_› | exact cj2 ‹_› | exact cl2 ‹_› | exact cj3 ‹_› | exact cl3 ‹_› | exact cj4 ‹_› | exact cl4 ‹_› | exact cj5 ‹_› | exact cl5 ‹_› | exact cj6 ‹_› | exact cl6 ‹_› | exact cj7 ‹_› | exact cl7 ‹_› | exact cj8 ‹_› | exact cl8 ‹_› | exact cj9 ‹_› | exact cl9 ‹_› | exact cj10 ‹_› | exact cl10 ‹_› | exact cj11 ‹_› | exact cl11 ‹_› | exact cj12 ‹_› | exact cl12 ‹_›))
  (k_with "k_ne" => (((refine neN ?_); (try dsimp only); first | exact Nat.ne_of_gt (by k_extra "CJ") | exact Nat.ne_of_lt (by k_extra "CJ") | k_extra "CJ" | exact Ne.symm (by k_extra "CJ"))))
  (k_with "ktr_room" => (first | exact rm0 ‹_› | exact rm1 ‹_› rfl | exact rm2 ‹_› rfl | exact rm3 ‹_› rfl))
  (k_with "ktr_units" => (first | exact rm0 ‹_› | exact rm1 ‹_› rfl | exact rm2 ‹_› rfl | exact rm3 ‹_› rfl))
  (k_with "k_mem" => (first | exact List.Mem.head _ | (refine' List.Mem.tail _ ?_; k_mem) | (show (_ : Addr × Obj) ∈ (_ : List (Addr × Obj)); with_reducible assumption)))
  (k_with "BINDS" => (first | exact BindsTo.of_eq rfl | exact binds_K (by k_in) rfl (by k_is) rfl rfl rfl | (refine' kp_binds ?zzkx ?zzke; (case zzkx => k_in); (case zzke => exact fun _ => rfl))))
  (k_with "callWith ref" => ((k_here; k_dflt (first | (refine' callWith_K ?zzk1 ?zzk2 ?_; (case zzk1 => k_asm); (case zzk2 => k_is); k_whole) | (refine' callWith_KW ?zzk1 ?zzk2 ?zzk3 ?_; (case zzk1 => k_asm); (case zzk2 => k_is); (case zzk3 => exact rfl); k_whole)))))
  (k_with "call builtin:len" => ((k_here; (with_reducible show wpAny _ _ (call (Value.builtin "len") [Value.ref _]) _ _ _); k_dflt (refine' my_len ?zzk1 ?zzk2 ?zzk3 ?_; (case zzk1 => k_asm); (case zzk2 => k_mem); (case zzk3 => first | assumption | omega); k_whole))))
  (k_with "callWith ref" => ((k_here; k_dflt (refine' callWith_Fn1 ?zzkf ?_; (case zzkf => with_reducible assumption); k_whole))))
  (k_with "And" => (((with_reducible show IsFn _ _ ∧ _); refine ⟨KeyFn.get (by with_reducible assumption) (by k_in) (by k_asm), ?_⟩; try dsimp only [List.nil_append, List.cons_append])))
  (k_with "SAME" => (first | exact Same.refl _ _ | (intros z h9; (simp only [List.contains_cons, List.contains_nil, Bool.or_false, Bool.or_eq_false_iff, beq_eq_false_iff_ne, ne_eq] at h9); simp [h9])))
  (k_with "ENTERG" => ((refine wpAny_call ?_; k_dflt (refine' code_sub (rest := []) ?zzk1 ?zzk2 ?zzk3 ?zzk4 ?zzk5 ?zzkD ?zzkR ?zzkA ?zzkF ?zzkK ?zzk6 ?zzk7 ?zzk8 ?zzk9 ?zzkB ?_ ?zzc2 ?zzc3 ?zzc4 ?zzc5; (case zzkA => exact rfl); (case zzkF => exact rfl); (case zzkK => assumption); (case zzk1 => k_asm); (case zzk2 => k_asm); (case zzk3 => k_asm); (case zzk4 => k_asm); (case zzk5 => k_asm); (case zzkD => exact fun _ hq => hq); (case zzkR => exact fun _ hq => nomatch hq); (case zzk6 => k_is); (case zzk7 => k_is); (case zzk8 => ktr_room); (case zzk9 => walk_at "BINDS"); (case zzc5 => decide); (case zzkB => exact locs rfl); (case zzc2 => exact rfl); (case zzc3 => exact rfl); (case zzc4 => exact rfl); k_whole; (first | (k_extra "EPSENT"; refine no_implicit_lambda% (all_eps3 (i := by k_extra "NE9") ?_); generalize pj0 _ = g', pj1 _ = L', pj2 _ = h'; intro FG' F' N' B' X' T' _ _) | intro g' L' h' FG' F' N' B' X' T' _ _); (try ((rename CodeHd _ _ _ => hC8); (have hC9 := hC8.keeps FG'.keep))); (try dsimp only); (try k_lift B'); (try k_fold)))))
  (k_with "CompEnd" => ((k_dflt (refine' compEnd_same ?zzF ?zzN ?zzoff ?zzsrc ?_; (case zzF => k_asm); (case zzN => k_asm); (case zzoff => first | assumption | ((simp only [LCg.Off3, and_true]); first | done | assumption)); (case zzsrc => lcg_src)))))
  exact True.intro
abbrev wS : List Str := ["place", "word", "number", "size"]
/-- a frame whose number and size are known -/
theorem frame_w {m₀ m' : Str → Option Value} {v1 v2 : Value} (h : Same wS m₀ m') (h1 : m' "number" = some v1) (h2 : m' "size" = some v2) :
    m' = fun y : Str => if y = "number" then some v1 else if y = "size" then some v2 else if wS.contains y then m' y else m₀ y := by
  funext y
  by_cases e1 : y = "number"
  · rw [if_pos e1, e1, h1]
  · rw [if_neg e1]
    by_cases e2 : y = "size"
    · rw [if_pos e2, e2, h2]
    · rw [if_neg e2]
      cases e : wS.contains y with
      | true => simp
      | false => simp [h y e]
theorem written_at {prog : Program} {w : World} {A : Around} {E : Value → Shared → Prop} {s : Shared} {env : Env} {h₀ : Heap} {target : PySem.Expr} {body orelse : List Stmt} {Q : Flow → Shared → Prop} {d : Addr} {ds : List Value} {ls os sts ms : List Int} {n : Nat} {m : Str → Option Value} {news : List (Addr × Obj)} {t0 u0 : Tok}
    (hh : A.handled = none) (F : Fr h₀ env.locals s.heap m) (N : News h₀ env.locals s.heap news) (hd9 : (d, listOf ds.toArray n) ∈ news) (hi : IntsAre ds ms) (hn0 : m "number" = some (.int 0 t0)) (hs0 : m "size" = some (.int 0 u0))
    (step : ∀ (i : Nat) (p : Int) (t tn ts : Tok) (I : Addr) (oI : Obj) (z : Str → Option Value) (h₁ : Heap) (tk₁ : Nat), ms[i]? = some p → Value.int p t ∈ ds → (∀ p ∈ news, p.1 < I) →
      Fr h₀ env.locals h₁ (fun y => if y = "number" then some (.int (wr ls os sts (ms.take i)).1 tn) else if y = "size" then some (.int (wr ls os sts (ms.take i)).2 ts) else if wS.contains y then z y else m y) → News h₀ env.locals h₁ ((I, oI) :: news) →
      wpAny (model prog w) A (assign target env (.int p t)) (fun _ s₃ => wpAny (model prog w) A (execs body env) (StepT h₀ env.locals [I] [(I, oI)] [(d, listOf ds.toArray n)] (fun _ m' nl => Same wS m m' ∧ nl = news ∧ (∃ tn, m' "number" = some (.int (wrF ls os sts (wr ls os sts (ms.take i)) p).1 tn)) ∧ ∃ ts, m' "size" = some (.int (wrF ls os sts (wr ls os sts (ms.take i)) p).2 ts)) { s with heap := h₁, toks := tk₁ } Q) E s₃) E { s with heap := h₁, toks := tk₁ })
    (fin : ∀ (h' : Heap) (tk : Nat) (tn ts : Tok) (z : Str → Option Value),
      Fr h₀ env.locals h' (fun y => if y = "number" then some (.int (wr ls os sts ms).1 tn) else if y = "size" then some (.int (wr ls os sts ms).2 ts) else if wS.contains y then z y else m y) → News h₀ env.locals h' news → wpAny (model prog w) A (execs orelse env) Q E { s with heap := h', toks := tk })
    (hE : PassesOwn (model prog w) A env E := by passes_own) : LoopAt prog w A env target body orelse Q E (.ref d) s := by
  refine LoopAt.list (fun i _ m' nl => Same wS m m' ∧ nl = news ∧ (∃ tn, m' "number" = some (.int (wr ls os sts (ms.take i)).1 tn)) ∧ ∃ ts, m' "size" = some (.int (wr ls os sts (ms.take i)).2 ts)) hh F N hd9 ⟨Same.refl _ _, rfl, ⟨t0, hn0⟩, u0, hs0⟩ ?_ ?_ (fun _ _ _ _ _ h _ => h) hE
  · rintro i v I o m₁ nl h₁ tk₁ hx ⟨hS, rfl, ⟨tn, e1⟩, ts, e2⟩ hle _ hI hlt F₁ N₁
    obtain ⟨p, t, rfl, hk⟩ := ints_get hi hx
    rw [frame_w hS e1 e2] at F₁
    have et : ms.take (i + 1) = ms.take i ++ [p] := by rw [List.take_add_one, hk]; rfl
    rw [et, wr_snoc]
    exact step i p t tn ts I o m₁ h₁ tk₁ hk (List.mem_of_getElem? hx) hlt F₁ N₁
  · rintro h' tk m' nl ⟨hS, rfl, ⟨tn, e1⟩, ts, e2⟩ _ _ F' N'
    rw [hi.length, List.take_length] at e1 e2
    rw [frame_w hS e1 e2] at F'
    exact fin h' tk tn ts m' F' N'
theorem words_written_1 : True := by
  (k_with "k_all" => (with_reducible assumption))
  (k_with "exec For Name Name cons nil" => ((k_here; k_dflt (refine' For_at ?_); k_whole)))
  (k_with "call ref" => ((k_here; first | (k_dflt (refine' c_sub ?zzk1 ?zzk2 ?zzk3 ?zzk4 ?zzk5 ?zzkK ?zzkd ?zzku ?_; (case zzk1 => k_asm); (case zzk2 => k_asm); (case zzk3 => k_asm); (case zzk4 => k_asm); (case zzk5 => k_asm); (case zzkK => first | exact rfl | (rename (Scope.kind _ = ScopeKind.function) => hk9; exact hk9)); (case zzkd => ktr_room); (case zzku => ktr_units); k_whole); intro t9 h9 tk9 F9 N9; (try dsimp only); (try k_fold)) | (k_dflt (refine' c_add ?zzk1 ?zzk2 ?zzk3 ?zzk4 ?zzk5 ?zzkK ?zzkd ?zzku ?_; (case zzk1 => k_asm); (case zzk2 => k_asm); (case zzk3 => k_asm); (case zzk4 => k_asm); (case zzk5 => k_asm); (case zzkK => first | exact rfl | (rename (Scope.kind _ = ScopeKind.function) => hk9; exact hk9)); (case zzkd => ktr_room); (case zzku => ktr_units); k_whole); intro t9 h9 tk9 F9 N9; (try dsimp only); (try k_fold)) | (k_dflt (refine' c_lsh ?zzk1 ?zzk2 ?zzk3 ?zzk4 ?zzk5 ?zzkK ?zzkd ?zzku ?zzky ?zzkz ?zzkx ?_; (case zzk1 => k_asm); (case zzk2 => k_asm); (case zzk3 => k_asm); (case zzk4 => k_asm); (case zzk5 => k_asm); (case zzkK => first | exact rfl | (rename (Scope.kind _ = ScopeKind.function) => hk9; exact hk9)); (case zzkd => ktr_room); (case zzku => ktr_units); (case zzky => assumption); (case zzkz => omega); (case zzkx => first | decide | assumption); k_whole); intro t9 h9 tk9 F9 N9; (try dsimp only); (try k_fold)) | (k_dflt (refine' c_rsh ?zzk1 ?zzk2 ?zzk3 ?zzk4 ?zzk5 ?zzkK ?zzkd ?zzku ?zzky ?_; (case zzk1 => k_asm); (case zzk2 => k_asm); (case zzk3 => k_asm); (case zzk4 => k_asm); (case zzk5 => k_asm); (case zzkK => first | exact rfl | (rename (Scope.kind _ = ScopeKind.function) => hk9; exact hk9)); (case zzkd => ktr_room); (case zzku => ktr_units); (case zzky => assumption); k_whole); intro t9 h9 tk9 F9 N9; (try dsimp only); (try k_fold)) | (k_dflt (refine' c_and ?zzk1 ?zzk2 ?zzk3 ?zzk4 ?zzk5 ?zzkK ?zzkd ?zzku ?_; (case zzk1 => k_asm); (case zzk2 => k_asm); (case zzk3 => k_asm); (case zzk4 => k_asm); (case zzk5 => k_asm); (case zzkK => first | exact rfl | (rename (Scope.kind _ = ScopeKind.function) => hk9; exact hk9)); (case zzkd => ktr_room); (case zzku => ktr_units); k_whole); intro t9 h9 tk9 F9 N9; (try dsimp only); (try k_fold)) | (k_dflt (refine' c_or ?zzk1 ?zzk2 ?zzk3 ?zzk4 ?zzk5 ?zzkK ?zzkd ?zzku ?_; (case zzk1 => k_asm); (case zzk2 => k_asm); (case zzk3 => k_asm); (case zzk4 => k_asm); (case zzk5 => k_asm); (case zzkK => first | exact rfl | (rename (Scope.kind _ = ScopeKind.function) => hk9; exact hk9)); (case zzkd => ktr_room); (case zzku => ktr_units); k_whole); intro t9 h9 tk9 F9 N9; (try dsimp only); (try k_fold)))))
  exact True.intro
theorem c_written {prog : Program} {w : World} {loose : List Str} {mean : ExcName → Option Value} {mg mb : Str → Option Value}
    {dp un : Nat} {gd : Option (List Code)} {cn : Str} {cs : Scope} {a : Addr} {ccd : Value} {cl : List (Str × Addr)} {outer : List Env} {A₀ : Around} {base h₀ : Heap} {L : Addr} {m : Str → Option Value} {s : Shared} {Q E : Value → Shared → Prop} {news : List (Addr × Obj)}
    {ml l ol sl : Addr} {nm n no k : Nat} {mv us ov sv : List Value} {ms ls os sts : List Int}
    (B : Below A₀ base outer h₀) (F : Fr h₀ L s.heap m) (X : (hd.heap_39 w.params).In h₀) (N : News h₀ L s.heap news) (T : Top topProg loose mean mg mb h₀) (hk : cs.kind = .function)
    (hdp : dp + 10 < recursionLimit) (hun : un + 300 < cLine) (hml : (ml, listOf mv.toArray nm) ∈ news) (him : IntsAre mv ms) (hm15 : ms.length < 16) (hmr : ∀ p ∈ ms, 0 ≤ p ∧ p < 5)
    (hl : (l, listOf us.toArray n) ∈ news) (hi : IntsAre us ls) (h5 : ls.length = 5) (hol : (ol, listOf ov.toArray no) ∈ news) (hio : IntsAre ov os) (hsl : (sl, listOf sv.toArray k) ∈ news) (his : IntsAre sv sts) (h5s : sts.length = 5)
    (hpos : ∀ x ∈ ls, 0 ≤ x ∧ x ≤ 1000) (hin : ∀ p ∈ ms, p ∈ os ∧ ix os p < 5) (htx : ∀ p t, Value.int p t ∈ mv → TokX ov p t) (hW : WordOk ls os sts)
    (hret : ∀ r tn ts h' tk', Fr h₀ L h' m → News h₀ L h' ((r, { cls := .type "tuple", data := .seq #[.int (wr ls os sts ms).1 tn, .int (wr ls os sts ms).2 ts] }) :: news) → (∀ p ∈ news, p.1 < r) → Q (.ref r) { s with heap := h', toks := tk' }) :
    wpAny (model prog w) (ktrTop dp un gd cn cs L a ccd cl outer) (call (.ref 196) [.ref ml, .ref l, .ref ol, .ref sl]) Q E s := by
  k_with "EPSON" => skip
  k_with "NE9" => repeat (with_reducible first | exact neSh | exact neAr | exact neEx | exact neWo | refine neP ?_ ?_ | infer_instance)
  k_with "RangeRest" => first
    | ((with_unfolding_all refine RangeRest.succ ?_); intro t' h' tk' F' N')
    | ((with_unfolding_all refine RangeRest.zero ?_); intro h' tk' F' N')
  k_with "CompRest" => first
    | ((with_unfolding_all refine LCg.CompRest.succ ?_); (first | (k_extra "EPSON"; refine no_implicit_lambda% (all_eps10 (i := by k_extra "NE9") ?_); generalize pj0 _ = v', pj1 _ = I', pj2 _ = oI', pj3 _ = C', pj4 _ = oC', pj5 _ = D', pj6 _ = m', pj7 _ = h', pj8 _ = tk', pj9 _ = E'; intro hv' hC' hx' F' N' off' ne') | intro v' I' oI' C' oC' D' m' h' tk' E' hv' hC' hx' F' N' off' ne'); (first | lcg_open hv' | (refine ex_elim hv' ?_; clear hv'; intro t9' hv9'; subst hv9')); (try simp only [LCg.Off3, and_true] at off'))
    | with_unfolding_all refine LCg.CompRest.zero ?_
  k_with "EPS1" => (refine no_implicit_lambda% (all_eps (i := by k_extra "NE9") ?_); generalize eps _ _ = xE9)
  k_with "EPSCELLS" => first
    | (have hY := PyProof.Rows.CellsAre.one Y'; refine ex_elim hY ?_; clear hY; intro o' hE'; obtain ⟨hE', d1'⟩ := hE'; subst hE'; clear Y')
    | (have hY := PyProof.Rows.CellsAre.two Y'; refine ex_elim hY ?_; clear hY; intro o' hY; refine ex_elim hY ?_; clear hY; intro o2' hY; obtain ⟨hE', d1', d2'⟩ := hY; subst hE'; clear Y')
    | (have hY := PyProof.Rows.CellsAre.three Y'; refine ex_elim hY ?_; clear hY; intro o' hY; refine ex_elim hY ?_; clear hY; intro o2' hY; refine ex_elim hY ?_; clear hY; intro o3' hY; obtain ⟨hE', d1', d2', d3'⟩ := hY; subst hE'; clear Y')
  k_with "EPSENT" => skip
  revert B F X N T hk hdp hun hml him hm15 hmr hl hi h5 hol hio hsl his h5s hpos hin htx hW hret
  revert prog w loose mean mg mb dp un gd cn cs a ccd cl outer A₀ base h₀ L m s Q E news ml l ol sl nm n no k mv us ov sv ms ls os sts
  refine no_implicit_lambda% (all_eps24 (i := by k_extra "NE9") ?_); generalize pj0 _ = prog, pj1 _ = w, pj2 _ = loose, pj3 _ = mean, pj4 _ = mg, pj5 _ = mb, pj6 _ = dp, pj7 _ = un, pj8 _ = gd, pj9 _ = cn, pj10 _ = cs, pj11 _ = a, pj12 _ = ccd, pj13 _ = cl, pj14 _ = outer, pj15 _ = A₀, pj16 _ = base, pj17 _ = h₀, pj18 _ = L, pj19 _ = m, pj20 _ = s, pj21 _ = Q, pj22 _ = E, pj23 _ = news; refine no_implicit_lambda% (all_eps16 (i := by k_extra "NE9") ?_); generalize pj0 _ = ml, pj1 _ = l, pj2 _ = ol, pj3 _ = sl, pj4 _ = nm, pj5 _ = n, pj6 _ = no, pj7 _ = k, pj8 _ = mv, pj9 _ = us, pj10 _ = ov, pj11 _ = sv, pj12 _ = ms, pj13 _ = ls, pj14 _ = os, pj15 _ = sts
  intros B F X N T hk hdp hun hml him hm15 hmr hl hi h5 hol hio hsl his h5s hpos hin htx hW hret
  (k_with "LoopAt" => ((rename Fr _ _ _ _ => lF'); (rename News _ _ _ _ => lN'); k_dflt (refine' written_at (ls := ls) (os := os) (sts := sts) ?kh lF' lN' hml him ?ka ?kb ?step ?fin; (case kh => exact rfl); (case ka => exact rfl); (case kb => exact rfl)); (case' step => (clear lF' lN'; intro i9 p9 t9 tn9 ts9 I9 oI9 z9 h9 tk9 hp9 hm9 z3 lF9 lN9; (have hpm := List.mem_of_getElem? hp9); (have hr9 := hmr p9 hpm); (obtain ⟨b1, b2⟩ := shift_ok hpos h5 hr9.1 hr9.2); (obtain ⟨w0, w1, l0, l1⟩ := hW.ok p9 hr9.1 hr9.2); (obtain ⟨e1, e2⟩ := hin p9 hpm); (have b3 : 0 ≤ ls.getD p9.toNat 0 := by omega); (have b4 := wr_bound hW (ms.take i9) (0, 0) 0 (by decide) (by decide) fun p hp => hmr p (List.mem_of_mem_take hp)); (have b5 : ((wr ls os sts (ms.take i9)).1).natAbs < 2 ^ 64 := wr_small b4 (by rw [List.length_take]; omega)); (have b6 := b4.1); clear b4; (try dsimp only); (try k_fold))); (case' fin => (clear lF' lN'; intro h9 tk9 tn9 ts9 z9 lF9 lN9; (try dsimp only); (try k_fold)))))
  (k_with "call ref" => (k_dflt (refine' c_idx (us := ov) (ns := os) ?k1 ?k2 ?k3 ?k4 ?k5 ?kK ?kd ?ku ?kl hio (htx p9 t9 hm9) e1 ?_; (case k1 => k_asm); (case k2 => k_asm); (case k3 => k_asm); (case k4 => k_asm); (case k5 => k_asm); (case kK => first | exact rfl | (rename (Scope.kind _ = ScopeKind.function) => hk9; exact hk9)); (case kd => ktr_room); (case ku => ktr_units); (case kl => k_mem); k_whole); intro t8 h8 tk8 F8 N8 hg8; (try dsimp only); (try k_fold)))
  (k_with "call builtin:max" => (k_dflt (refine' my_max ?F ?N ?kl hi ?kn ?kp ?kh ?_; (case F => k_asm); (case N => k_asm); (case kl => k_mem); (case kn => (rw [h5]; decide)); (case kp => exact fun x hx => (hpos x hx).1); (case kh => exact rfl); k_whole); intro t8 h8 tk8 F8 N8; (try dsimp only); (try k_fold)))
  (k_with "subscriptTail Name Call ref int" => (k_dflt (refine' my_itemI ?N ?kl his ?k1 ?k2 ?k3 ?_; (case N => k_asm); (case kl => k_mem); (case k1 => omega); (case k2 => (rw [h5s]; omega)); (case k3 => (rw [h5s]; decide))); intro t8))
  (k_with "subscriptTail Name Name ref int" => (k_dflt (refine' my_itemI ?N ?kl hi ?k1 ?k2 ?k3 ?_; (case N => k_asm); (case kl => k_mem); (case k1 => exact hr9.1); (case k2 => (rw [h5]; exact hr9.2)); (case k3 => (rw [h5]; decide))); intro t8))
  walk_at "ENTERG"
  k_steps
  · (rename News _ _ _ _ => lN8)
    intro _
    exact hret _ _ _ _ _ (by assumption) lN8 (by first | assumption | exact tb_ltOf (by assumption))
  · (rename Fr _ _ _ _ => lF8); (rename News _ _ _ _ => lN8)
    refine StepT.next lF8 lN8 ?_ (List.forall_mem_cons.mpr ⟨hml, List.forall_mem_nil _⟩) fun _ => ⟨by walk_at "SAME", rfl, ?_, ⟨_, rfl⟩⟩
    · intro p hp q
      exact Nat.ne_of_lt (z3 p hp) (List.mem_singleton.mp q)
    · exact ⟨_, Eq.trans (rfl : _ = some (Value.int (Builtin.bitOr ((wr ls os sts (List.take i9 ms)).1 * 2 ^ (ls.getD p9.toNat 0).toNat) (wordOf ls os sts p9)) _)) (by rw [or_word (show 0 ≤ (wr ls os sts (List.take i9 ms)).1 from b6) w0 w1]; rfl)⟩

end
section
theorem words_ibis : True := by
  k_with_none
  (k_with "CJ" => (with_reducible first | assumption | exact cj0 ‹_› | exact cj1 ‹_› | exact cl1 ‹_› | exact cj2 ‹_› | exact cl2 ‹_› | exact cj3 ‹_› | exact cl3 ‹_› | exact cj4 ‹_› | exact cl4 ‹_› | exact cj5 ‹_› | exact cl5 ‹_› | exact cj6 ‹_› | exact cl6 ‹_› | exact cj7 ‹_› | exact cl7 ‹_› | exact cj8 ‹_› | exact cl8 ‹_› | exact cj9 ‹_› | exact cl9 ‹_› | exact cj10 ‹_› | exact cl10 ‹_› | exact cj11 ‹_› | exact cl11 ‹_› | exact cj12 ‹_› | exact cl12 ‹_›))
  (k_with "k_ne" => (((refine neN ?_); (try dsimp only); first | exact Nat.ne_of_gt (by k_extra "CJ") | exact Nat.ne_of_lt (by k_extra "CJ") | k_extra "CJ" | exact Ne.symm (by k_extra "CJ"))))
  (k_with "ktr_room" => (first | exact rm0 ‹_› | exact rm1 ‹_› rfl | exact rm2 ‹_› rfl | exact rm3 ‹_› rfl))
  (k_with "ktr_units" => (first | exact rm0 ‹_› | exact rm1 ‹_› rfl | exact rm2 ‹_› rfl | exact rm3 ‹_› rfl))
  (k_with "k_mem" => (first | exact List.Mem.head _ | (refine' List.Mem.tail _ ?_; k_mem) | (show (_ : Addr × Obj) ∈ (_ : List (Addr × Obj)); with_reducible assumption)))
  (k_with "BINDS" => (first | exact BindsTo.of_eq rfl | exact binds_K (by k_in) rfl (by k_is) rfl rfl rfl | (refine' kp_binds ?zzkx ?zzke; (case zzkx => k_in); (case zzke => exact fun _ => rfl))))
  (k_with "ENTER" => ((refine wpAny_call ?_; first | k_dflt (refine' code_def ?zzk1 ?zzk2 ?zzk3 ?zzk4 ?zzk5 ?zzkA ?zzkF ?zzkK ?zzk6 ?zzk7 ?zzk8 ?zzk9 ?zzkB ?_ ?zzc2 ?zzc3 ?zzc4 ?zzc5; (case zzkA => exact rfl); (case zzkF => exact rfl); (case zzkK => assumption); (case zzk1 => k_asm); (case zzk2 => k_asm); (case zzk3 => k_asm); (case zzk4 => k_asm); (case zzk5 => k_asm); (case zzk6 => k_is); (case zzk7 => k_is); (case zzk8 => ktr_room); (case zzk9 => walk_at "BINDS"); (case zzc5 => decide); (case zzkB => exact locs rfl); (case zzc2 => exact rfl); (case zzc3 => exact rfl); (case zzc4 => exact rfl); k_whole; (first | (k_extra "EPSENT"; refine no_implicit_lambda% (all_eps3 (i := by k_extra "NE9") ?_); generalize pj0 _ = g', pj1 _ = L', pj2 _ = h'; intro FG' F' N' B' X' T') | intro g' L' h' FG' F' N' B' X' T'); (try dsimp only); (try k_lift B'); (try k_fold)) | k_dflt (refine' code_defC ?zzk1 ?zzk2 ?zzk3 ?zzk4 ?zzk5 ?zzkA ?zzkF ?zzkK ?zzk6 ?zzk7 ?zzk8 ?zzk9 ?zzkB ?zzkD ?_ ?zzc2 ?zzc3 ?zzc4; (case zzkA => exact rfl); (case zzkF => exact rfl); (case zzkK => assumption); (case zzk1 => k_asm); (case zzk2 => k_asm); (case zzk3 => k_asm); (case zzk4 => k_asm); (case zzk5 => k_asm); (case zzk6 => k_is); (case zzk7 => k_is); (case zzk8 => ktr_room); (case zzk9 => walk_at "BINDS"); (case zzkB => exact rfl); (case zzkD => decide +kernel); (case zzc2 => exact rfl); (case zzc3 => exact rfl); (case zzc4 => exact rfl); k_whole; (first | (k_extra "EPSENT"; refine no_implicit_lambda% (all_eps5 (i := by k_extra "NE9") ?_); generalize pj0 _ = g', pj1 _ = L', pj2 _ = h', pj3 _ = tk', pj4 _ = cells'; intro FG' F' N' Y' B' X' T' l1) | intro g' L' h' tk' cells' FG' F' N' Y' B' X' T' l1); (try k_lt l1); k_cells Y'; (try simp only [List.cons_append, List.nil_append] at N'); (try dsimp only); (try k_lift B'); (try k_fold)))))
  (k_with "callWith ref" => ((k_here; k_dflt (first | (refine' callWith_K ?zzk1 ?zzk2 ?_; (case zzk1 => k_asm); (case zzk2 => k_is); k_whole) | (refine' callWith_KW ?zzk1 ?zzk2 ?zzk3 ?_; (case zzk1 => k_asm); (case zzk2 => k_is); (case zzk3 => exact rfl); k_whole)))))
  (k_with "call builtin:len" => ((k_here; (with_reducible show wpAny _ _ (call (Value.builtin "len") [Value.ref _]) _ _ _); k_dflt (refine' my_len ?zzk1 ?zzk2 ?zzk3 ?_; (case zzk1 => k_asm); (case zzk2 => k_mem); (case zzk3 => first | assumption | omega); k_whole))))
  (k_with "callWith ref" => ((k_here; k_dflt (refine' callWith_Fn1 ?zzkf ?_; (case zzkf => with_reducible assumption); k_whole))))
  (k_with "And" => (((with_reducible show IsFn _ _ ∧ _); refine ⟨KeyFn.get (by with_reducible assumption) (by k_in) (by k_asm), ?_⟩; try dsimp only [List.nil_append, List.cons_append])))
  (k_with "CompEnd" => ((k_dflt (refine' compEnd_same ?zzF ?zzN ?zzoff ?zzsrc ?_; (case zzF => k_asm); (case zzN => k_asm); (case zzoff => first | assumption | ((simp only [LCg.Off3, and_true]); first | done | assumption)); (case zzsrc => lcg_src)))))
  exact True.intro
theorem bR_ints {prog : Program} {w : World} {loose : List Str} {mean : ExcName → Option Value} {mg mb : Str → Option Value}
    {dp un : Nat} {gd : Option (List Code)} {cn : Str} {cs : Scope} {a : Addr} {ccd : Value} {cl : List (Str × Addr)} {outer : List Env} {A₀ : Around} {base h₀ : Heap} {L : Addr} {m : Str → Option Value} {s : Shared} {Q E : Value → Shared → Prop} {news : List (Addr × Obj)}
    {l : Addr} {us : List Value} {ns : List Int} {n : Nat} {x : Int} {t : Tok}
    (B : Below A₀ base outer h₀) (F : Fr h₀ L s.heap m) (X : (hd.heap_39 w.params).In h₀) (N : News h₀ L s.heap news) (T : Top topProg loose mean mg mb h₀) (hk : cs.kind = .function)
    (hdp : dp + 2 < recursionLimit) (hun : un + 16 < cLine) (hl : (l, listOf us.toArray n) ∈ news) (hi : IntsAre us ns) (hlen : ns.length < 1000)
    (hret : ∀ t h' tk', Fr h₀ L h' m → News h₀ L h' news → Q (.int (bisN (fun j => !(decide (x < ns.getD j 0))) 0 ns.length : Nat) t) { s with heap := h', toks := tk' }) :
    wpAny (model prog w) (ktrTop dp un gd cn cs L a ccd cl outer) (call (.ref 32) [.ref l, .int x t] []) Q E s := by
  have e := hi.length
  refine bR_no2 (lt := fun j => decide (x < ns.getD j 0)) B F X N T hk hdp hun hl (by omega) (fun i v hv => ?_) fun t' h' tk' F' N' => by rw [e]; exact hret t' h' tk' F' N'
  intro A9 h9 L9 m9 s9 Q9 E9 hu9 F9 X9 N9 hret9
  obtain ⟨u, rfl⟩ := ints_at hi hv
  exact P.lt_int (hret9 s9.heap s9.toks F9 N9)
theorem bL_ints {prog : Program} {w : World} {loose : List Str} {mean : ExcName → Option Value} {mg mb : Str → Option Value}
    {dp un : Nat} {gd : Option (List Code)} {cn : Str} {cs : Scope} {a : Addr} {ccd : Value} {cl : List (Str × Addr)} {outer : List Env} {A₀ : Around} {base h₀ : Heap} {L : Addr} {m : Str → Option Value} {s : Shared} {Q E : Value → Shared → Prop} {news : List (Addr × Obj)}
    {l : Addr} {us : List Value} {ns : List Int} {n : Nat} {x : Int} {t : Tok}
    (B : Below A₀ base outer h₀) (F : Fr h₀ L s.heap m) (X : (hd.heap_39 w.params).In h₀) (N : News h₀ L s.heap news) (T : Top topProg loose mean mg mb h₀) (hk : cs.kind = .function)
    (hdp : dp + 2 < recursionLimit) (hun : un + 16 < cLine) (hl : (l, listOf us.toArray n) ∈ news) (hi : IntsAre us ns) (hlen : ns.length < 1000)
    (hret : ∀ t h' tk', Fr h₀ L h' m → News h₀ L h' news → Q (.int (bisN (fun j => decide (ns.getD j 0 < x)) 0 ns.length : Nat) t) { s with heap := h', toks := tk' }) :
    wpAny (model prog w) (ktrTop dp un gd cn cs L a ccd cl outer) (call (.ref 50) [.ref l, .int x t] []) Q E s := by
  have e := hi.length
  refine bL_no2 (lt := fun j => decide (ns.getD j 0 < x)) B F X N T hk hdp hun hl (by omega) (fun i v hv => ?_) fun t' h' tk' F' N' => by rw [e]; exact hret t' h' tk' F' N'
  intro A9 h9 L9 m9 s9 Q9 E9 hu9 F9 X9 N9 hret9
  obtain ⟨u, rfl⟩ := ints_at hi hv
  exact P.lt_int (hret9 s9.heap s9.toks F9 N9)
theorem c_getitem {prog : Program} {w : World} {loose : List Str} {mean : ExcName → Option Value} {mg mb : Str → Option Value}
    {dp un : Nat} {gd : Option (List Code)} {cn : Str} {cs : Scope} {a : Addr} {ccd : Value} {cl : List (Str × Addr)} {outer : List Env} {A₀ : Around} {base h₀ : Heap} {L : Addr} {m : Str → Option Value} {s : Shared} {Q E : Value → Shared → Prop} {news : List (Addr × Obj)}
    {l : Addr} {us : List Value} {ns : List Int} {n : Nat} {k : Int} {t : Tok}
    (B : Below A₀ base outer h₀) (F : Fr h₀ L s.heap m) (X : (hd.heap_39 w.params).In h₀) (N : News h₀ L s.heap news) (T : Top topProg loose mean mg mb h₀) (hk : cs.kind = .function)
    (hdp : dp + 2 < recursionLimit) (hun : un + 16 < cLine) (hl : (l, listOf us.toArray n) ∈ news) (hi : IntsAre us ns) (h0 : 0 ≤ k) (h1 : k < (ns.length : Int)) (hlen : ns.length < 1000)
    (hret : ∀ t h' tk', Fr h₀ L h' m → News h₀ L h' news → Q (.int (ns.getD k.toNat 0) t) { s with heap := h', toks := tk' }) :
    wpAny (model prog w) (ktrTop dp un gd cn cs L a ccd cl outer) (call (.ref 113) [.ref l, .int k t] []) Q E s := by
  (k_with "subscriptTail Name Name ref int" => (k_dflt (refine' my_itemI ?N ?kl hi h0 h1 hlen ?_; (case N => k_asm); (case kl => k_mem)); intro t8))
  walk_at "ENTER"
  k_steps
  exact hret _ _ _ (by assumption) (by assumption)
theorem c_eof0 {prog : Program} {w : World} {loose : List Str} {mean : ExcName → Option Value} {mg mb : Str → Option Value}
    {dp un : Nat} {gd : Option (List Code)} {cn : Str} {cs : Scope} {a : Addr} {ccd : Value} {cl : List (Str × Addr)} {outer : List Env} {A₀ : Around} {base h₀ : Heap} {L : Addr} {m : Str → Option Value} {s : Shared} {Q E : Value → Shared → Prop} {news : List (Addr × Obj)}
    {x : Int} {t : Tok} {b : Bool}
    (B : Below A₀ base outer h₀) (F : Fr h₀ L s.heap m) (X : (hd.heap_39 w.params).In h₀) (N : News h₀ L s.heap news) (T : Top topProg loose mean mg mb h₀) (hk : cs.kind = .function)
    (hdp : dp + 1 < recursionLimit) (hun : un + 32 < cLine) (hb : Sealed (decide (x = 0) = b))
    (hret : ∀ h' tk', Fr h₀ L h' m → News h₀ L h' news → Q (.bool b) { s with heap := h', toks := tk' }) :
    wpAny (model prog w) (ktrTop dp un gd cn cs L a ccd cl outer) (call (.ref 130) [.int x t]) Q E s := c_eof B F X N T hk hdp hun fun h' tk' F' N' => by rw [hb.eq]; exact hret h' tk' F' N'
/-- is a list of ints empty? -/
theorem eq_nil {prog : Program} {w : World} {A : Around} {E : Value → Shared → Prop} {s : Shared} {h₀ : Heap} {L a b : Addr} {news : List (Addr × Obj)} {us : List Value} {ns : List Int} {c c2 : Nat} {b0 : Bool} {Q : Value → Shared → Prop}
    (N : News h₀ L s.heap news) (ha : (a, listOf us.toArray c) ∈ news) (hb : (b, listOf #[] c2) ∈ news) (hi : IntsAre us ns) (hs : Sealed (ns.isEmpty = b0)) (hu : A.units + 64 < cLine) (h : Q (.bool b0) s) :
    wpAny (model prog w) A (compareOp .Eq (.ref a) (.ref b)) Q E s :=
  ke_eq_ints (ys := []) (ms := []) ⟨_, (N _ ha).1, rfl, c, rfl⟩ ⟨_, (N _ hb).1, rfl, c2, rfl⟩ hi .nil hu (by
    have e : decide (ns = []) = b0 := by rw [← hs.eq]; cases ns <;> rfl
    rw [e]; exact h)

end
section
theorem words_read : True := by
  k_with_none
  (k_with "CJ" => (with_reducible first | assumption | exact cj0 ‹_› | exact cj1 ‹_› | exact cl1 ‹_› | exact cj2 ‹_› | exact cl2 ‹_› | exact cj3 ‹_› | exact cl3 ‹_› | exact cj4 ‹_› | exact cl4 ‹_› | exact cj5 ‹_› | exact cl5 ‹_› | exact cj6 ‹_› | exact cl6 ‹_› | exact cj7 ‹_› | exact cl7 ‹_› | exact cj8 ‹_› | exact cl8 ‹_› | exact cj9 ‹_› | exact cl9 ‹_› | exact cj10 ‹_› | exact cl10 ‹_› | exact cj11 ‹_› | exact cl11 ‹_› | exact cj12 ‹_› | exact cl12 ‹_›))
  (k_with "k_ne" => (((refine neN ?_); (try dsimp only); first | exact Nat.ne_of_gt (by k_extra "CJ") | exact Nat.ne_of_lt (by k_extra "CJ") | k_extra "CJ" | exact Ne.symm (by k_extra "CJ"))))
  (k_with "ktr_room" => (first | exact rm0 ‹_› | exact rm1 ‹_› rfl | exact rm2 ‹_› rfl | exact rm3 ‹_› rfl))
  (k_with "ktr_units" => (first | exact rm0 ‹_› | exact rm1 ‹_› rfl | exact rm2 ‹_› rfl | exact rm3 ‹_› rfl))
  (k_with "k_mem" => (first | exact List.Mem.head _ | (refine' List.Mem.tail _ ?_; k_mem) | (show (_ : Addr × Obj) ∈ (_ : List (Addr × Obj)); with_reducible assumption)))
  (k_with "BINDS" => (first | exact BindsTo.of_eq rfl | exact binds_K (by k_in) rfl (by k_is) rfl rfl rfl | (refine' kp_binds ?zzkx ?zzke; (case zzkx => k_in); (case zzke => exact fun _ => rfl))))
  (k_with "callWith ref" => ((k_here; k_dflt (first | (refine' callWith_K ?zzk1 ?zzk2 ?_; (case zzk1 => k_asm); (case zzk2 => k_is); k_whole) | (refine' callWith_KW ?zzk1 ?zzk2 ?zzk3 ?_; (case zzk1 => k_asm); (case zzk2 => k_is); (case zzk3 => exact rfl); k_whole)))))
  (k_with "call builtin:len" => ((k_here; (with_reducible show wpAny _ _ (call (Value.builtin "len") [Value.ref _]) _ _ _); k_dflt (refine' my_len ?zzk1 ?zzk2 ?zzk3 ?_; (case zzk1 => k_asm); (case zzk2 => k_mem); (case zzk3 => first | assumption | omega); k_whole))))
  (k_with "callWith ref" => ((k_here; k_dflt (refine' callWith_Fn1 ?zzkf ?_; (case zzkf => with_reducible assumption); k_whole))))
  (k_with "And" => (((with_reducible show IsFn _ _ ∧ _); refine ⟨KeyFn.get (by with_reducible assumption) (by k_in) (by k_asm), ?_⟩; try dsimp only [List.nil_append, List.cons_append])))
  (k_with "SAME" => (first | exact Same.refl _ _ | (intros z h9; (simp only [List.contains_cons, List.contains_nil, Bool.or_false, Bool.or_eq_false_iff, beq_eq_false_iff_ne, ne_eq] at h9); simp [h9])))
  (k_with "ENTERG" => ((refine wpAny_call ?_; k_dflt (refine' code_sub (rest := []) ?zzk1 ?zzk2 ?zzk3 ?zzk4 ?zzk5 ?zzkD ?zzkR ?zzkA ?zzkF ?zzkK ?zzk6 ?zzk7 ?zzk8 ?zzk9 ?zzkB ?_ ?zzc2 ?zzc3 ?zzc4 ?zzc5; (case zzkA => exact rfl); (case zzkF => exact rfl); (case zzkK => assumption); (case zzk1 => k_asm); (case zzk2 => k_asm); (case zzk3 => k_asm); (case zzk4 => k_asm); (case zzk5 => k_asm); (case zzkD => exact fun _ hq => hq); (case zzkR => exact fun _ hq => nomatch hq); (case zzk6 => k_is); (case zzk7 => k_is); (case zzk8 => ktr_room); (case zzk9 => walk_at "BINDS"); (case zzc5 => decide); (case zzkB => exact locs rfl); (case zzc2 => exact rfl); (case zzc3 => exact rfl); (case zzc4 => exact rfl); k_whole; (first | (k_extra "EPSENT"; refine no_implicit_lambda% (all_eps3 (i := by k_extra "NE9") ?_); generalize pj0 _ = g', pj1 _ = L', pj2 _ = h'; intro FG' F' N' B' X' T' _ _) | intro g' L' h' FG' F' N' B' X' T' _ _); (try ((rename CodeHd _ _ _ => hC8); (have hC9 := hC8.keeps FG'.keep))); (try dsimp only); (try k_lift B'); (try k_fold)))))
  (k_with "CompEnd" => ((k_dflt (refine' compEnd_same ?zzF ?zzN ?zzoff ?zzsrc ?_; (case zzF => k_asm); (case zzN => k_asm); (case zzoff => first | assumption | ((simp only [LCg.Off3, and_true]); first | done | assumption)); (case zzsrc => lcg_src)))))
  exact True.intro
abbrev rS : List Str := ["window", "at", "start", "place", "size"]
/-- what the reading finds at every symbol -/
structure ReadOk (ls os sts : List Int) (padded : Int) (ms : List Int) (sz : Nat → Int) : Prop where
  ok : ∀ i p, ms[i]? = some p → 0 ≤ p ∧ p < 5 ∧ 0 ≤ sz i ∧ sz (i + 1) = sz i - ls.getD p.toNat 0 ∧ ∃ wd : Int, Builtin.bitAnd (padded.fdiv (2 ^ (sz i).toNat)) (1 * 2 ^ (mx ls).toNat - 1) = wd ∧
    bisN (fun j => !(decide (wd < sts.getD j 0))) 0 sts.length = ix os p + 1 ∧ bisN (fun j => decide (sts.getD j 0 < wd + 1)) 0 sts.length = ix os p + 1 ∧ ix os p < 5 ∧ os.getD (ix os p) 0 = p ∧
    Builtin.bitAnd wd (sts.getD (ix os p) 0) = sts.getD (ix os p) 0 ∧ Builtin.bitOr wd (sts.getD (ix os p) 0) = wd
/-- the symbols told -/
def tolds (ys ms : List Int) (i : Nat) : List Int := (ms.take i).map fun p => ys.getD p.toNat 0
theorem tolds_length {ys ms : List Int} {i : Nat} (h : i ≤ ms.length) : (tolds ys ms i).length = i := by
  unfold tolds
  rw [List.length_map, List.length_take]
  omega
theorem tolds_snoc {ys ms : List Int} {i : Nat} {p : Int} (h : ms[i]? = some p) : tolds ys ms (i + 1) = tolds ys ms i ++ [ys.getD p.toNat 0] := by
  unfold tolds
  rw [List.take_add_one, h, Option.toList_some, List.map_append]
  rfl
theorem tolds_last {ys ms : List Int} {i : Nat} {p : Int} (h : ms[i]? = some p) (hi : i < ms.length) : (tolds ys ms (i + 1)).getD ((tolds ys ms (i + 1)).length - 1) 0 = ys.getD p.toNat 0 := by
  rw [tolds_length (by omega), tolds_snoc h, List.getD_eq_getElem?_getD, List.getElem?_append_right (by rw [tolds_length (by omega)]; omega), tolds_length (by omega)]
  simp
/-- only the last symbol is the end's -/
structure EndOk (ys ms : List Int) : Prop where
  ok : ∀ i p, ms[i]? = some p → (ys.getD p.toNat 0 = 0 ↔ i + 1 = ms.length)
theorem frame_r {m₀ m' : Str → Option Value} {v1 : Value} (h : Same rS m₀ m') (h1 : m' "size" = some v1) : m' = fun y : Str => if y = "size" then some v1 else if rS.contains y then m' y else m₀ y := by
  funext y
  by_cases e1 : y = "size"
  · rw [if_pos e1, e1, h1]
  · rw [if_neg e1]
    cases e : rS.contains y with
    | true => simp
    | false => simp [h y e]
/-- what stands between the turns -/
def ReadJ (ys ms : List Int) (sz : Nat → Int) (tl : Addr) (m : Str → Option Value) (news : List (Addr × Obj)) (n _tk : Nat) (m' : Str → Option Value) (nx : List (Addr × Obj)) : Prop :=
  ∃ (i : Nat) (tv : List Value) (kt : Nat) (st : Tok), i ≤ ms.length ∧ n = ms.length - i ∧ Same rS m m' ∧ m' "size" = some (.int (sz i) st) ∧ nx = (tl, listOf tv.toArray kt) :: news ∧ IntsAre tv (tolds ys ms i)
theorem read_while {prog : Program} {w : World} {A : Around} {E : Value → Shared → Prop} {Q : Flow → Shared → Prop} {s : Shared} {env : Env} {h₀ : Heap} {L tl : Addr} {test : PySem.Expr} {body : List Stmt} {pos : Pos} {m : Str → Option Value} {news : List (Addr × Obj)} {ys ms : List Int} {sz : Nat → Int} {k0 : Nat} {s0 : Tok}
    (F : Fr h₀ L s.heap m) (N : News h₀ L s.heap ((tl, listOf #[] k0) :: news)) (hs : m "size" = some (.int (sz 0) s0)) (hE1 : EndOk ys ms)
    (tst : ∀ (i : Nat) (b1 : Bool) (tk : Nat) (z : Str → Option Value) (h : Heap) (tv : List Value) (kt : Nat) (st : Tok) (R : Bool → Shared → Prop), i < ms.length → IntsAre tv (tolds ys ms i) → Sealed ((tolds ys ms i).isEmpty = b1) → (b1 = true ∨ Sealed (decide ((tolds ys ms i).getD ((tolds ys ms i).length - 1) 0 = 0) = false)) →
      Fr h₀ L h (fun y => if y = "size" then some (.int (sz i) st) else if rS.contains y then z y else m y) → News h₀ L h ((tl, listOf tv.toArray kt) :: news) →
      (∀ h2 tk2, Fr h₀ L h2 (fun y => if y = "size" then some (.int (sz i) st) else if rS.contains y then z y else m y) → News h₀ L h2 ((tl, listOf tv.toArray kt) :: news) → R true { s with heap := h2, toks := tk2 }) →
      wpAny (model prog w) A (isTrue test env (eval test env)) R E { s with heap := h, toks := tk })
    (turn : ∀ (i : Nat) (p : Int) (tk : Nat) (z : Str → Option Value) (h : Heap) (tv : List Value) (kt : Nat) (st : Tok), i < ms.length → ms[i]? = some p → IntsAre tv (tolds ys ms i) →
      Fr h₀ L h (fun y => if y = "size" then some (.int (sz i) st) else if rS.contains y then z y else m y) → News h₀ L h ((tl, listOf tv.toArray kt) :: news) →
      wpAny (model prog w) A (execs body env) (WStep h₀ L s (ReadJ ys ms sz tl m news) (ms.length - i) Q) E { s with heap := h, toks := tk })
    (fin : ∀ (tk : Nat) (z : Str → Option Value) (h : Heap) (tv : List Value) (kt : Nat) (st : Tok), IntsAre tv (tolds ys ms ms.length) → Sealed ((tolds ys ms ms.length).isEmpty = false) → Sealed (decide ((tolds ys ms ms.length).getD ((tolds ys ms ms.length).length - 1) 0 = 0) = true) →
      Fr h₀ L h (fun y => if y = "size" then some (.int (sz ms.length) st) else if rS.contains y then z y else m y) → News h₀ L h ((tl, listOf tv.toArray kt) :: news) →
      wpAny (model prog w) A (isTrue test env (eval test env)) (fun b s₂ => if b = true then wpAny (model prog w) A (execs body env) (WStep h₀ L s (ReadJ ys ms sz tl m news) 0 Q) E s₂ else Q .next s₂) E { s with heap := h, toks := tk })
    (hne : 0 < ms.length) (hE : PassesOwn (model prog w) A env E := by passes_own) : wpAny (model prog w) A (exec (.While test body [] pos) env) Q E s := by
  refine while_T (n := ms.length) (ReadJ ys ms sz tl m news) F N ⟨0, [], k0, s0, Nat.zero_le _, rfl, Same.refl _ _, hs, rfl, .nil⟩ ?_ hE
  rintro n tk m₁ nx h ⟨i, tv, kt, st, hi, rfl, hS, h1, rfl, x1⟩ _ F₁ N₁
  rw [frame_r hS h1] at F₁
  rcases Nat.lt_or_eq_of_le hi with hlt | rfl
  · obtain ⟨p, hp⟩ : ∃ p, ms[i]? = some p := ⟨_, List.getElem?_eq_getElem hlt⟩
    cases i with
    | zero => exact tst 0 true tk m₁ h tv kt st _ hlt x1 ⟨rfl⟩ (.inl rfl) F₁ N₁ fun h2 tk2 F2 N2 => turn 0 p tk2 m₁ h2 tv kt st hlt hp x1 F2 N2
    | succ j =>
      obtain ⟨q, hq⟩ : ∃ q, ms[j]? = some q := ⟨_, List.getElem?_eq_getElem (Nat.lt_of_succ_lt hlt)⟩
      refine tst (j + 1) false tk m₁ h tv kt st _ hlt x1 ⟨?_⟩ (.inr ⟨?_⟩) F₁ N₁ fun h2 tk2 F2 N2 => turn (j + 1) p tk2 m₁ h2 tv kt st hlt hp x1 F2 N2
      · rw [List.isEmpty_eq_false_iff]
        intro e
        have := tolds_length (ys := ys) hi
        rw [e] at this
        simp at this
      · rw [tolds_last hq (by omega)]
        exact decide_eq_false fun e => by have := (hE1.ok j q hq).mp e; omega
  · obtain ⟨j, hj⟩ : ∃ j, ms.length = j + 1 := ⟨ms.length - 1, by omega⟩
    obtain ⟨q, hq⟩ : ∃ q, ms[j]? = some q := ⟨_, List.getElem?_eq_getElem (by omega)⟩
    have el := tolds_last (ys := ys) hq (by omega)
    rw [← hj] at el
    have := fin tk m₁ h tv kt st x1 ⟨by
      rw [List.isEmpty_eq_false_iff]
      intro e
      have := tolds_length (ys := ys) hi
      rw [e] at this
      simp at this
      omega⟩ ⟨by rw [el]; exact decide_eq_true ((hE1.ok j q hq).mpr hj.symm)⟩ F₁ N₁
    rw [Nat.sub_self]
    exact this
theorem words_read_1 : True := by
  (k_with "k_all" => (with_reducible assumption))
  exact True.intro
theorem len_pos {ns : List Int} (h : Sealed (ns.isEmpty = false)) : 0 < ns.length := by
  cases ns with
  | nil => exact nomatch h.eq
  | cons a r => exact Nat.succ_pos _
theorem bR_r {prog : Program} {w : World} {loose : List Str} {mean : ExcName → Option Value} {mg mb : Str → Option Value}
    {dp un : Nat} {gd : Option (List Code)} {cn : Str} {cs : Scope} {a : Addr} {ccd : Value} {cl : List (Str × Addr)} {outer : List Env} {A₀ : Around} {base h₀ : Heap} {L : Addr} {m : Str → Option Value} {s : Shared} {Q E : Value → Shared → Prop} {news : List (Addr × Obj)}
    {l : Addr} {us : List Value} {ns : List Int} {n r : Nat} {x : Int} {t : Tok}
    (B : Below A₀ base outer h₀) (F : Fr h₀ L s.heap m) (X : (hd.heap_39 w.params).In h₀) (N : News h₀ L s.heap news) (T : Top topProg loose mean mg mb h₀) (hk : cs.kind = .function)
    (hdp : dp + 2 < recursionLimit) (hun : un + 16 < cLine) (hl : (l, listOf us.toArray n) ∈ news) (hi : IntsAre us ns) (hlen : ns.length < 1000) (he : Sealed (bisN (fun j => !(decide (x < ns.getD j 0))) 0 ns.length = r))
    (hret : ∀ t h' tk', Fr h₀ L h' m → News h₀ L h' news → Q (.int (r : Int) t) { s with heap := h', toks := tk' }) :
    wpAny (model prog w) (ktrTop dp un gd cn cs L a ccd cl outer) (call (.ref 32) [.ref l, .int x t] []) Q E s := bR_ints B F X N T hk hdp hun hl hi hlen fun t' h' tk' F' N' => by rw [he.eq]; exact hret t' h' tk' F' N'
theorem bL_r {prog : Program} {w : World} {loose : List Str} {mean : ExcName → Option Value} {mg mb : Str → Option Value}
    {dp un : Nat} {gd : Option (List Code)} {cn : Str} {cs : Scope} {a : Addr} {ccd : Value} {cl : List (Str × Addr)} {outer : List Env} {A₀ : Around} {base h₀ : Heap} {L : Addr} {m : Str → Option Value} {s : Shared} {Q E : Value → Shared → Prop} {news : List (Addr × Obj)}
    {l : Addr} {us : List Value} {ns : List Int} {n r : Nat} {x : Int} {t : Tok}
    (B : Below A₀ base outer h₀) (F : Fr h₀ L s.heap m) (X : (hd.heap_39 w.params).In h₀) (N : News h₀ L s.heap news) (T : Top topProg loose mean mg mb h₀) (hk : cs.kind = .function)
    (hdp : dp + 2 < recursionLimit) (hun : un + 16 < cLine) (hl : (l, listOf us.toArray n) ∈ news) (hi : IntsAre us ns) (hlen : ns.length < 1000) (he : Sealed (bisN (fun j => decide (ns.getD j 0 < x)) 0 ns.length = r))
    (hret : ∀ t h' tk', Fr h₀ L h' m → News h₀ L h' news → Q (.int (r : Int) t) { s with heap := h', toks := tk' }) :
    wpAny (model prog w) (ktrTop dp un gd cn cs L a ccd cl outer) (call (.ref 50) [.ref l, .int x t] []) Q E s := bL_ints B F X N T hk hdp hun hl hi hlen fun t' h' tk' F' N' => by rw [he.eq]; exact hret t' h' tk' F' N'
theorem c_getitem_r {prog : Program} {w : World} {loose : List Str} {mean : ExcName → Option Value} {mg mb : Str → Option Value}
    {dp un : Nat} {gd : Option (List Code)} {cn : Str} {cs : Scope} {a : Addr} {ccd : Value} {cl : List (Str × Addr)} {outer : List Env} {A₀ : Around} {base h₀ : Heap} {L : Addr} {m : Str → Option Value} {s : Shared} {Q E : Value → Shared → Prop} {news : List (Addr × Obj)}
    {l : Addr} {us : List Value} {ns : List Int} {n j : Nat} {k : Int} {t : Tok}
    (B : Below A₀ base outer h₀) (F : Fr h₀ L s.heap m) (X : (hd.heap_39 w.params).In h₀) (N : News h₀ L s.heap news) (T : Top topProg loose mean mg mb h₀) (hk : cs.kind = .function)
    (hdp : dp + 2 < recursionLimit) (hun : un + 16 < cLine) (hl : (l, listOf us.toArray n) ∈ news) (hi : IntsAre us ns) (hj : k = (j : Int)) (h1 : j < ns.length) (hlen : ns.length < 1000)
    (hret : ∀ t h' tk', Fr h₀ L h' m → News h₀ L h' news → Q (.int (ns.getD j 0) t) { s with heap := h', toks := tk' }) :
    wpAny (model prog w) (ktrTop dp un gd cn cs L a ccd cl outer) (call (.ref 113) [.ref l, .int k t] []) Q E s := by
  subst hj
  exact c_getitem B F X N T hk hdp hun hl hi (Int.natCast_nonneg _) (by omega) hlen hret
theorem c_and_r {prog : Program} {w : World} {loose : List Str} {mean : ExcName → Option Value} {mg mb : Str → Option Value}
    {dp un : Nat} {gd : Option (List Code)} {cn : Str} {cs : Scope} {a : Addr} {ccd : Value} {cl : List (Str × Addr)} {outer : List Env} {A₀ : Around} {base h₀ : Heap} {L : Addr} {m : Str → Option Value} {s : Shared} {Q E : Value → Shared → Prop} {news : List (Addr × Obj)}
    {x y r : Int} {t u : Tok}
    (B : Below A₀ base outer h₀) (F : Fr h₀ L s.heap m) (X : (hd.heap_39 w.params).In h₀) (N : News h₀ L s.heap news) (T : Top topProg loose mean mg mb h₀) (hk : cs.kind = .function)
    (hdp : dp + 1 < recursionLimit) (hun : un + 32 < cLine) (he : Sealed (Builtin.bitAnd x y = r))
    (hret : ∀ t' h' tk', Fr h₀ L h' m → News h₀ L h' news → Q (.int r t') { s with heap := h', toks := tk' }) :
    wpAny (model prog w) (ktrTop dp un gd cn cs L a ccd cl outer) (call (.ref 64) [.int x t, .int y u]) Q E s := c_and B F X N T hk hdp hun fun t' h' tk' F' N' => by rw [he.eq]; exact hret t' h' tk' F' N'
theorem c_or_r {prog : Program} {w : World} {loose : List Str} {mean : ExcName → Option Value} {mg mb : Str → Option Value}
    {dp un : Nat} {gd : Option (List Code)} {cn : Str} {cs : Scope} {a : Addr} {ccd : Value} {cl : List (Str × Addr)} {outer : List Env} {A₀ : Around} {base h₀ : Heap} {L : Addr} {m : Str → Option Value} {s : Shared} {Q E : Value → Shared → Prop} {news : List (Addr × Obj)}
    {x y r : Int} {t u : Tok}
    (B : Below A₀ base outer h₀) (F : Fr h₀ L s.heap m) (X : (hd.heap_39 w.params).In h₀) (N : News h₀ L s.heap news) (T : Top topProg loose mean mg mb h₀) (hk : cs.kind = .function)
    (hdp : dp + 1 < recursionLimit) (hun : un + 32 < cLine) (he : Sealed (Builtin.bitOr x y = r))
    (hret : ∀ t' h' tk', Fr h₀ L h' m → News h₀ L h' news → Q (.int r t') { s with heap := h', toks := tk' }) :
    wpAny (model prog w) (ktrTop dp un gd cn cs L a ccd cl outer) (call (.ref 78) [.int x t, .int y u]) Q E s := c_or B F X N T hk hdp hun fun t' h' tk' F' N' => by rw [he.eq]; exact hret t' h' tk' F' N'
theorem my_itemR {prog : Program} {w : World} {A : Around} {E : Value → Shared → Prop} {s : Shared} {h₀ : Heap} {L l : Addr} {news : List (Addr × Obj)} {us : List Value} {ns : List Int} {c j : Nat} {value slice : PySem.Expr} {k v : Int} {u : Tok} {Q : Value → Shared → Prop} (N : News h₀ L s.heap news) (hm : (l, listOf us.toArray c) ∈ news)
    (hi : IntsAre us ns) (hj : k = (j : Int)) (h1 : j < ns.length) (hfit : ns.length < 1000) (hv : Sealed (ns.getD j 0 = v)) (h : ∀ t, Q (.int v t) s)
    (hs : subscripted slice false (.ref l) (.int k u) = operate [.ref l, .int k u] (getItem (.ref l) (.int k u)) := by with_unfolding_all rfl) :
    wpAny (model prog w) A (subscriptTail value slice (.ref l) (.int k u)) Q E s := by
  subst hj
  refine my_itemI N hm hi (Int.natCast_nonneg _) (by omega) hfit (fun t => ?_) hs
  rw [Int.toNat_natCast, hv.eq]
  exact h t
theorem words_read_2 : True := by
  (k_with "SUBL" => ((intros p9 h9; (repeat (first | exact h9 | refine List.Mem.tail _ ?_)))))
  (k_with "compareOp Eq ref ref" => ((k_here; k_dflt (refine' eq_nil ?zzN ?zzka ?zzkb ?zzki ?zzks ?zzku ?_; (case zzN => k_asm); (case zzka => k_mem); (case zzkb => k_mem); (case zzki => with_reducible assumption); (case zzks => with_reducible assumption); (case zzku => ktr_units)))))
  (k_with "call ref" => ((k_here; first | (k_dflt (refine' c_sub ?zzk1 ?zzk2 ?zzk3 ?zzk4 ?zzk5 ?zzkK ?zzkd ?zzku ?_; (case zzk1 => k_asm); (case zzk2 => k_asm); (case zzk3 => k_asm); (case zzk4 => k_asm); (case zzk5 => k_asm); (case zzkK => first | exact rfl | (rename (Scope.kind _ = ScopeKind.function) => hk9; exact hk9)); (case zzkd => ktr_room); (case zzku => ktr_units); k_whole); intro t9 h9 tk9 F9 N9; (try dsimp only); (try k_fold)) | (k_dflt (refine' c_add ?zzk1 ?zzk2 ?zzk3 ?zzk4 ?zzk5 ?zzkK ?zzkd ?zzku ?_; (case zzk1 => k_asm); (case zzk2 => k_asm); (case zzk3 => k_asm); (case zzk4 => k_asm); (case zzk5 => k_asm); (case zzkK => first | exact rfl | (rename (Scope.kind _ = ScopeKind.function) => hk9; exact hk9)); (case zzkd => ktr_room); (case zzku => ktr_units); k_whole); intro t9 h9 tk9 F9 N9; (try dsimp only); (try k_fold)) | (k_dflt (refine' c_lsh ?zzk1 ?zzk2 ?zzk3 ?zzk4 ?zzk5 ?zzkK ?zzkd ?zzku ?zzky ?zzkz ?zzkx ?_; (case zzk1 => k_asm); (case zzk2 => k_asm); (case zzk3 => k_asm); (case zzk4 => k_asm); (case zzk5 => k_asm); (case zzkK => first | exact rfl | (rename (Scope.kind _ = ScopeKind.function) => hk9; exact hk9)); (case zzkd => ktr_room); (case zzku => ktr_units); (case zzky => assumption); (case zzkz => omega); (case zzkx => first | decide | assumption); k_whole); intro t9 h9 tk9 F9 N9; (try dsimp only); (try k_fold)) | (k_dflt (refine' c_rsh ?zzk1 ?zzk2 ?zzk3 ?zzk4 ?zzk5 ?zzkK ?zzkd ?zzku ?zzky ?_; (case zzk1 => k_asm); (case zzk2 => k_asm); (case zzk3 => k_asm); (case zzk4 => k_asm); (case zzk5 => k_asm); (case zzkK => first | exact rfl | (rename (Scope.kind _ = ScopeKind.function) => hk9; exact hk9)); (case zzkd => ktr_room); (case zzku => ktr_units); (case zzky => assumption); k_whole); intro t9 h9 tk9 F9 N9; (try dsimp only); (try k_fold)) | (k_dflt (refine' c_and_r ?zzk1 ?zzk2 ?zzk3 ?zzk4 ?zzk5 ?zzkK ?zzkd ?zzku ?zzke ?_; (case zzk1 => k_asm); (case zzk2 => k_asm); (case zzk3 => k_asm); (case zzk4 => k_asm); (case zzk5 => k_asm); (case zzkK => first | exact rfl | (rename (Scope.kind _ = ScopeKind.function) => hk9; exact hk9)); (case zzkd => ktr_room); (case zzku => ktr_units); (case zzke => with_reducible assumption); k_whole); intro t9 h9 tk9 F9 N9; (try dsimp only); (try k_fold)) | (k_dflt (refine' c_or_r ?zzk1 ?zzk2 ?zzk3 ?zzk4 ?zzk5 ?zzkK ?zzkd ?zzku ?zzke ?_; (case zzk1 => k_asm); (case zzk2 => k_asm); (case zzk3 => k_asm); (case zzk4 => k_asm); (case zzk5 => k_asm); (case zzkK => first | exact rfl | (rename (Scope.kind _ = ScopeKind.function) => hk9; exact hk9)); (case zzkd => ktr_room); (case zzku => ktr_units); (case zzke => with_reducible assumption); k_whole); intro t9 h9 tk9 F9 N9; (try dsimp only); (try k_fold)) | (k_dflt (refine' c_and ?zzk1 ?zzk2 ?zzk3 ?zzk4 ?zzk5 ?zzkK ?zzkd ?zzku ?_; (case zzk1 => k_asm); (case zzk2 => k_asm); (case zzk3 => k_asm); (case zzk4 => k_asm); (case zzk5 => k_asm); (case zzkK => first | exact rfl | (rename (Scope.kind _ = ScopeKind.function) => hk9; exact hk9)); (case zzkd => ktr_room); (case zzku => ktr_units); k_whole); intro t9 h9 tk9 F9 N9; (try dsimp only); (try k_fold)) | (k_dflt (refine' c_or ?zzk1 ?zzk2 ?zzk3 ?zzk4 ?zzk5 ?zzkK ?zzkd ?zzku ?_; (case zzk1 => k_asm); (case zzk2 => k_asm); (case zzk3 => k_asm); (case zzk4 => k_asm); (case zzk5 => k_asm); (case zzkK => first | exact rfl | (rename (Scope.kind _ = ScopeKind.function) => hk9; exact hk9)); (case zzkd => ktr_room); (case zzku => ktr_units); k_whole); intro t9 h9 tk9 F9 N9; (try dsimp only); (try k_fold)))))
  exact True.intro
theorem ne_str_same {prog : Program} {w : World} {A : Around} {E : Value → Shared → Prop} {s : Shared} {x : Str} {t u : Tok} {Q : Value → Shared → Prop} (h : Q (.bool false) s) : wpAny (model prog w) A (compareOp .NotEq (.str x t) (.str x u)) Q E s := PyProof.Rows.ne_str (by rw [bne_self_eq_false]; exact h)
theorem ne_int_same {prog : Program} {w : World} {A : Around} {E : Value → Shared → Prop} {s : Shared} {x : Int} {t u : Tok} {Q : Value → Shared → Prop} (h : Q (.bool false) s) : wpAny (model prog w) A (compareOp .NotEq (.int x t) (.int x u)) Q E s := PyProof.Rows.ne_int (by rw [bne_self_eq_false]; exact h)
theorem c_read {prog : Program} {w : World} {loose : List Str} {mean : ExcName → Option Value} {mg mb : Str → Option Value}
    {dp un : Nat} {gd : Option (List Code)} {cn : Str} {cs : Scope} {a : Addr} {ccd : Value} {cl : List (Str × Addr)} {outer : List Env} {A₀ : Around} {base h₀ : Heap} {L : Addr} {m : Str → Option Value} {s : Shared} {Q E : Value → Shared → Prop} {news : List (Addr × Obj)}
    {l ol sl yl : Addr} {n no k ky : Nat} {us ov sv yv : List Value} {ls os sts ys ms : List Int} {num : Int} {tn ts : Tok} {sz : Nat → Int}
    (B : Below A₀ base outer h₀) (F : Fr h₀ L s.heap m) (X : (hd.heap_39 w.params).In h₀) (N : News h₀ L s.heap news) (T : Top topProg loose mean mg mb h₀) (hk : cs.kind = .function)
    (hdp : dp + 10 < recursionLimit) (hun : un + 300 < cLine) (hl : (l, listOf us.toArray n) ∈ news) (hi : IntsAre us ls) (h5 : ls.length = 5) (hol : (ol, listOf ov.toArray no) ∈ news) (hio : IntsAre ov os) (h5o : os.length = 5) (hsl : (sl, listOf sv.toArray k) ∈ news) (his : IntsAre sv sts) (h5s : sts.length = 5)
    (hyl : (yl, listOf yv.toArray ky) ∈ news) (hiy : IntsAre yv ys) (h5y : ys.length = 5) (hpos : ∀ x ∈ ls, 0 ≤ x ∧ x ≤ 1000) (hnum : num.natAbs < 2 ^ 64) (hmx0 : 0 ≤ mx ls) (hmx1 : mx ls ≤ 1000) (hne : 0 < ms.length) (hm16 : ms.length < 100)
    (hR : ReadOk ls os sts (num * 2 ^ (mx ls).toNat) ms sz) (hE1 : EndOk ys ms)
    (hret : ∀ r tv kt h' tk', Fr h₀ L h' m → News h₀ L h' ((r, listOf (List.toArray tv) kt) :: news) → (∀ p ∈ news, p.1 < r) → IntsAre tv (tolds ys ms ms.length) → Q (.ref r) { s with heap := h', toks := tk' }) :
    wpAny (model prog w) (ktrTop dp un gd cn cs L a ccd cl outer) (call (.ref 208) [.int num tn, .int (sz 0) ts, .ref l, .ref ol, .ref sl, .ref yl]) Q E s := by
  k_with "EPSON" => skip
  k_with "NE9" => repeat (with_reducible first | exact neSh | exact neAr | exact neEx | exact neWo | refine neP ?_ ?_ | infer_instance)
  k_with "RangeRest" => first
    | ((with_unfolding_all refine RangeRest.succ ?_); intro t' h' tk' F' N')
    | ((with_unfolding_all refine RangeRest.zero ?_); intro h' tk' F' N')
  k_with "CompRest" => first
    | ((with_unfolding_all refine LCg.CompRest.succ ?_); (first | (k_extra "EPSON"; refine no_implicit_lambda% (all_eps10 (i := by k_extra "NE9") ?_); generalize pj0 _ = v', pj1 _ = I', pj2 _ = oI', pj3 _ = C', pj4 _ = oC', pj5 _ = D', pj6 _ = m', pj7 _ = h', pj8 _ = tk', pj9 _ = E'; intro hv' hC' hx' F' N' off' ne') | intro v' I' oI' C' oC' D' m' h' tk' E' hv' hC' hx' F' N' off' ne'); (first | lcg_open hv' | (refine ex_elim hv' ?_; clear hv'; intro t9' hv9'; subst hv9')); (try simp only [LCg.Off3, and_true] at off'))
    | with_unfolding_all refine LCg.CompRest.zero ?_
  k_with "EPS1" => (refine no_implicit_lambda% (all_eps (i := by k_extra "NE9") ?_); generalize eps _ _ = xE9)
  k_with "EPSCELLS" => first
    | (have hY := PyProof.Rows.CellsAre.one Y'; refine ex_elim hY ?_; clear hY; intro o' hE'; obtain ⟨hE', d1'⟩ := hE'; subst hE'; clear Y')
    | (have hY := PyProof.Rows.CellsAre.two Y'; refine ex_elim hY ?_; clear hY; intro o' hY; refine ex_elim hY ?_; clear hY; intro o2' hY; obtain ⟨hE', d1', d2'⟩ := hY; subst hE'; clear Y')
    | (have hY := PyProof.Rows.CellsAre.three Y'; refine ex_elim hY ?_; clear hY; intro o' hY; refine ex_elim hY ?_; clear hY; intro o2' hY; refine ex_elim hY ?_; clear hY; intro o3' hY; obtain ⟨hE', d1', d2', d3'⟩ := hY; subst hE'; clear Y')
  k_with "EPSENT" => skip
  revert B F X N T hk hdp hun hl hi h5 hol hio h5o hsl his h5s hyl hiy h5y hpos hnum hmx0 hmx1 hne hm16 hR hE1 hret
  revert prog w loose mean mg mb dp un gd cn cs a ccd cl outer A₀ base h₀ L m s Q E news l ol sl yl n no k ky us ov sv yv ls os sts ys ms num tn ts sz
  refine no_implicit_lambda% (all_eps24 (i := by k_extra "NE9") ?_); generalize pj0 _ = prog, pj1 _ = w, pj2 _ = loose, pj3 _ = mean, pj4 _ = mg, pj5 _ = mb, pj6 _ = dp, pj7 _ = un, pj8 _ = gd, pj9 _ = cn, pj10 _ = cs, pj11 _ = a, pj12 _ = ccd, pj13 _ = cl, pj14 _ = outer, pj15 _ = A₀, pj16 _ = base, pj17 _ = h₀, pj18 _ = L, pj19 _ = m, pj20 _ = s, pj21 _ = Q, pj22 _ = E, pj23 _ = news; refine no_implicit_lambda% (all_eps21 (i := by k_extra "NE9") ?_); generalize pj0 _ = l, pj1 _ = ol, pj2 _ = sl, pj3 _ = yl, pj4 _ = n, pj5 _ = no, pj6 _ = k, pj7 _ = ky, pj8 _ = us, pj9 _ = ov, pj10 _ = sv, pj11 _ = yv, pj12 _ = ls, pj13 _ = os, pj14 _ = sts, pj15 _ = ys, pj16 _ = ms, pj17 _ = num, pj18 _ = tn, pj19 _ = ts, pj20 _ = sz
  intros B F X N T hk hdp hun hl hi h5 hol hio h5o hsl his h5s hyl hiy h5y hpos hnum hmx0 hmx1 hne hm16 hR hE1 hret
  (k_with "exec While BoolOp cons nil" => ((rename Fr _ _ _ _ => lF'); (rename News _ _ _ _ => lN'); k_dflt (refine' read_while (sz := sz) (ys := ys) (ms := ms) lF' lN' ?ka hE1 ?tst ?turn ?fin hne; (case ka => exact rfl)); (case' tst => (clear lF' lN'; intro i9 b1 tk9 z9 h9 tv9 kt9 st9 R9 hi9 x9 hb1 hb2 lF9 lN9 hR9; (have hs9 : tv9.length = i9 := by rw [x9.length, tolds_length (by omega)]); (cases b1); (try (have hb3 := hb2.resolve_left Bool.false_ne_true)); (try dsimp only); (try k_fold))); (case' turn => (clear lF' lN'; intro i9 p9 tk9 z9 h9 tv9 kt9 st9 hi9 hp9 x9 lF9 lN9; (obtain ⟨d1, d2, d3, d4, wd, rfl, d5, d6, d7, d8, d9, d10⟩ := hR.ok i9 p9 hp9); (have d4 := Sealed.mk d4); (have d5 := Sealed.mk d5); (have d6 := Sealed.mk d6); (have d8 := Sealed.mk d8); (have d9 := Sealed.mk d9); (have d10 := Sealed.mk d10); (have hs9 : tv9.length = i9 := by rw [x9.length, tolds_length (by omega)]); (try dsimp only); (try k_fold))); (case' fin => (clear lF' lN'; intro tk9 z9 h9 tv9 kt9 st9 x9 hb1 hb2 lF9 lN9; (try dsimp only); (try k_fold)))))
  (k_with "call builtin:max" => (k_dflt (refine' my_max ?F ?N ?kl hi ?kn ?kp ?kh ?_; (case F => k_asm); (case N => k_asm); (case kl => k_mem); (case kn => (rw [h5]; decide)); (case kp => exact fun x hx => (hpos x hx).1); (case kh => exact rfl); k_whole); intro t8 h8 tk8 F8 N8; (try dsimp only); (try k_fold)))
  (k_with "call ref" => (first
    | (k_dflt (refine' c_and_r ?k1 ?k2 ?k3 ?k4 ?k5 ?kK ?kd ?ku ?ke ?_; (case k1 => k_asm); (case k2 => k_asm); (case k3 => k_asm); (case k4 => k_asm); (case k5 => k_asm); (case kK => first | exact rfl | (rename (Scope.kind _ = ScopeKind.function) => hk9; exact hk9)); (case kd => ktr_room); (case ku => ktr_units); (case ke => with_reducible assumption); k_whole); intro t8 h8 tk8 F8 N8; (try dsimp only); (try k_fold))
    | (k_dflt (refine' c_or_r ?k1 ?k2 ?k3 ?k4 ?k5 ?kK ?kd ?ku ?ke ?_; (case k1 => k_asm); (case k2 => k_asm); (case k3 => k_asm); (case k4 => k_asm); (case k5 => k_asm); (case kK => first | exact rfl | (rename (Scope.kind _ = ScopeKind.function) => hk9; exact hk9)); (case kd => ktr_room); (case ku => ktr_units); (case ke => with_reducible assumption); k_whole); intro t8 h8 tk8 F8 N8; (try dsimp only); (try k_fold))
    | (k_dflt (refine' bR_r ?k1 ?k2 ?k3 ?k4 ?k5 ?kK ?kd ?ku ?kl his ?kz ?ke ?_; (case k1 => k_asm); (case k2 => k_asm); (case k3 => k_asm); (case k4 => k_asm); (case k5 => k_asm); (case kK => first | exact rfl | (rename (Scope.kind _ = ScopeKind.function) => hk9; exact hk9)); (case kd => ktr_room); (case ku => ktr_units); (case kl => k_mem); (case kz => (rw [h5s]; decide)); (case ke => with_reducible assumption); k_whole); intro t8 h8 tk8 F8 N8; (try dsimp only); (try k_fold))
    | (k_dflt (refine' bL_r ?k1 ?k2 ?k3 ?k4 ?k5 ?kK ?kd ?ku ?kl his ?kz ?ke ?_; (case k1 => k_asm); (case k2 => k_asm); (case k3 => k_asm); (case k4 => k_asm); (case k5 => k_asm); (case kK => first | exact rfl | (rename (Scope.kind _ = ScopeKind.function) => hk9; exact hk9)); (case kd => ktr_room); (case ku => ktr_units); (case kl => k_mem); (case kz => (rw [h5s]; decide)); (case ke => with_reducible assumption); k_whole); intro t8 h8 tk8 F8 N8; (try dsimp only); (try k_fold))
    | (k_dflt (refine' c_getitem_r (j := ix os p9) ?k1 ?k2 ?k3 ?k4 ?k5 ?kK ?kd ?ku ?kl his ?kj ?kx ?kz ?_; (case k1 => k_asm); (case k2 => k_asm); (case k3 => k_asm); (case k4 => k_asm); (case k5 => k_asm); (case kK => first | exact rfl | (rename (Scope.kind _ = ScopeKind.function) => hk9; exact hk9)); (case kd => ktr_room); (case ku => ktr_units); (case kl => k_mem); (case kj => omega); (case kx => (rw [h5s]; omega)); (case kz => (rw [h5s]; decide)); k_whole); intro t8 h8 tk8 F8 N8; (try dsimp only); (try k_fold))
    | (k_dflt (refine' c_eof0 ?k1 ?k2 ?k3 ?k4 ?k5 ?kK ?kd ?ku ?ke ?_; (case k1 => k_asm); (case k2 => k_asm); (case k3 => k_asm); (case k4 => k_asm); (case k5 => k_asm); (case kK => first | exact rfl | (rename (Scope.kind _ = ScopeKind.function) => hk9; exact hk9)); (case kd => ktr_room); (case ku => ktr_units); (case ke => with_reducible assumption); k_whole); (first | (k_extra "EPSON"; refine no_implicit_lambda% (all_eps2 (i := by k_extra "NE9") ?_); generalize pj0 _ = h8, pj1 _ = tk8; intro F8 N8) | intro h8 tk8 F8 N8); (try dsimp only); (try k_fold))))
  (k_with "subscriptTail Name UnaryOp ref int" => (k_dflt (refine' my_last ?N ?kl x9 ?k1 ?k2 ?_; (case N => k_asm); (case kl => k_mem); (case k1 => exact len_pos (by assumption)); (case k2 => (rw [tolds_length (by omega)]; omega))); intro t8))
  (k_with "subscriptTail Name Call ref int" => (k_dflt (refine' my_itemR (j := ix os p9) ?N ?kl hio ?kj ?k1 ?k2 d8 ?_; (case N => k_asm); (case kl => k_mem); (case kj => omega); (case k1 => (rw [h5o]; omega)); (case k2 => (rw [h5o]; decide))); intro t8))
  (k_with "subscriptTail Name Name ref int" => (first
    | ((with_reducible show wpAny _ _ (subscriptTail (PySem.Expr.Name (PySem.Str.ofString "lengths") _) _ _ _) _ _ _); k_dflt (refine' my_itemI ?N ?kl hi ?k1 ?k2 ?k3 ?_; (case N => k_asm); (case kl => k_mem); (case k1 => exact d1); (case k2 => (rw [h5]; exact d2)); (case k3 => (rw [h5]; decide))); intro t8)
    | ((with_reducible show wpAny _ _ (subscriptTail (PySem.Expr.Name (PySem.Str.ofString "symbols") _) _ _ _) _ _ _); k_dflt (refine' my_itemI ?N ?kl hiy ?k1 ?k2 ?k3 ?_; (case N => k_asm); (case kl => k_mem); (case k1 => exact d1); (case k2 => (rw [h5y]; exact d2)); (case k3 => (rw [h5y]; decide))); intro t8)))
  (k_with "compareOp NotEq str str" => refine ne_str_same ?_)
  (k_with "compareOp NotEq int int" => refine ne_int_same ?_)
  walk_at "ENTERG"
  k_steps
  all_goals first
    | ((rename News _ _ _ _ => lN8); exact hR9 _ _ (by assumption) (news_sub lN8 (List.forall_mem_cons.mpr ⟨by k_mem, by walk_at "SUBL"⟩)))
    | ((rename News _ _ _ _ => lN8); intros _; exact hret _ tv9 kt9 _ _ (by assumption) (news_sub lN8 (List.forall_mem_cons.mpr ⟨by k_mem, by walk_at "SUBL"⟩)) (by first | assumption | exact tb_ltOf (by assumption)) x9)
    | ((rename Fr _ _ _ _ => lF8); (rename News _ _ _ _ => lN8); exact ⟨_, _, _, _, ms.length - (i9 + 1), rfl, lF8, news_sub lN8 (List.forall_mem_cons.mpr ⟨by k_mem, by walk_at "SUBL"⟩), by omega, i9 + 1, _, kt9 + 1, _, by omega, rfl, by walk_at "SAME", by rw [d4.eq]; rfl, rfl, by rw [tolds_snoc hp9, List.concat_eq_append]; exact x9.append (.cons _ _ .nil)⟩)
    | skip

end
section
theorem words_frag : True := by
  k_with_none
  (k_with "CJ" => (with_reducible first | assumption | exact cj0 ‹_› | exact cj1 ‹_› | exact cl1 ‹_› | exact cj2 ‹_› | exact cl2 ‹_› | exact cj3 ‹_› | exact cl3 ‹_› | exact cj4 ‹_› | exact cl4 ‹_› | exact cj5 ‹_› | exact cl5 ‹_› | exact cj6 ‹_› | exact cl6 ‹_› | exact cj7 ‹_› | exact cl7 ‹_› | exact cj8 ‹_› | exact cl8 ‹_› | exact cj9 ‹_› | exact cl9 ‹_› | exact cj10 ‹_› | exact cl10 ‹_› | exact cj11 ‹_› | exact cl11 ‹_› | exact cj12 ‹_› | exact cl12 ‹_›))
  (k_with "k_ne" => (((refine neN ?_); (try dsimp only); first | exact Nat.ne_of_gt (by k_extra "CJ") | exact Nat.ne_of_lt (by k_extra "CJ") | k_extra "CJ" | exact Ne.symm (by k_extra "CJ"))))
  (k_with "ktr_room" => (first | exact rm0 ‹_› | exact rm1 ‹_› rfl | exact rm2 ‹_› rfl | exact rm3 ‹_› rfl))
  (k_with "ktr_units" => (first | exact rm0 ‹_› | exact rm1 ‹_› rfl | exact rm2 ‹_› rfl | exact rm3 ‹_› rfl))
  (k_with "k_mem" => (first | exact List.Mem.head _ | (refine' List.Mem.tail _ ?_; k_mem) | (show (_ : Addr × Obj) ∈ (_ : List (Addr × Obj)); with_reducible assumption)))
  (k_with "callWith ref" => ((k_here; k_dflt (first | (refine' callWith_K ?zzk1 ?zzk2 ?_; (case zzk1 => k_asm); (case zzk2 => k_is); k_whole) | (refine' callWith_KW ?zzk1 ?zzk2 ?zzk3 ?_; (case zzk1 => k_asm); (case zzk2 => k_is); (case zzk3 => exact rfl); k_whole)))))
  (k_with "call builtin:len" => ((k_here; (with_reducible show wpAny _ _ (call (Value.builtin "len") [Value.ref _]) _ _ _); k_dflt (refine' my_len ?zzk1 ?zzk2 ?zzk3 ?_; (case zzk1 => k_asm); (case zzk2 => k_mem); (case zzk3 => first | assumption | omega); k_whole))))
  (k_with "callWith ref" => ((k_here; k_dflt (refine' callWith_Fn1 ?zzkf ?_; (case zzkf => with_reducible assumption); k_whole))))
  (k_with "And" => (((with_reducible show IsFn _ _ ∧ _); refine ⟨KeyFn.get (by with_reducible assumption) (by k_in) (by k_asm), ?_⟩; try dsimp only [List.nil_append, List.cons_append])))
  exact True.intro
/-- a def's statements and its scope, as the written part of the heap holds them -/
noncomputable def fnBody (P : Params) (f : Addr) : List Stmt := match (hd.heap_39 P).lookup f with
  | some ⟨_, _, .func fd, _⟩ => (match fd.body with | .stmts b => b | _ => [])
  | _ => []
noncomputable def fnScope (P : Params) (f : Addr) : Option Scope := match (hd.heap_39 P).lookup f with
  | some ⟨_, _, .func fd, _⟩ => some fd.scope
  | _ => none
/-- the n-th statement -/
def nthStmt : List Stmt → Nat → Option Stmt
  | [], _ => none
  | s :: _, 0 => some s
  | _ :: r, n + 1 => nthStmt r n

end
section
theorem words_lenloop : True := by
  k_with_none
  (k_with "CJ" => (with_reducible first | assumption | exact cj0 ‹_› | exact cj1 ‹_› | exact cl1 ‹_› | exact cj2 ‹_› | exact cl2 ‹_› | exact cj3 ‹_› | exact cl3 ‹_› | exact cj4 ‹_› | exact cl4 ‹_› | exact cj5 ‹_› | exact cl5 ‹_› | exact cj6 ‹_› | exact cl6 ‹_› | exact cj7 ‹_› | exact cl7 ‹_› | exact cj8 ‹_› | exact cl8 ‹_› | exact cj9 ‹_› | exact cl9 ‹_› | exact cj10 ‹_› | exact cl10 ‹_› | exact cj11 ‹_› | exact cl11 ‹_› | exact cj12 ‹_› | exact cl12 ‹_›))
  (k_with "k_ne" => (((refine neN ?_); (try dsimp only); first | exact Nat.ne_of_gt (by k_extra "CJ") | exact Nat.ne_of_lt (by k_extra "CJ") | k_extra "CJ" | exact Ne.symm (by k_extra "CJ"))))
  (k_with "ktr_room" => (first | exact rm0 ‹_› | exact rm1 ‹_› rfl | exact rm2 ‹_› rfl | exact rm3 ‹_› rfl))
  (k_with "ktr_units" => (first | exact rm0 ‹_› | exact rm1 ‹_› rfl | exact rm2 ‹_› rfl | exact rm3 ‹_› rfl))
  (k_with "k_mem" => (first | exact List.Mem.head _ | (refine' List.Mem.tail _ ?_; k_mem) | (show (_ : Addr × Obj) ∈ (_ : List (Addr × Obj)); with_reducible assumption)))
  (k_with "callWith ref" => ((k_here; k_dflt (first | (refine' callWith_K ?zzk1 ?zzk2 ?_; (case zzk1 => k_asm); (case zzk2 => k_is); k_whole) | (refine' callWith_KW ?zzk1 ?zzk2 ?zzk3 ?_; (case zzk1 => k_asm); (case zzk2 => k_is); (case zzk3 => exact rfl); k_whole)))))
  (k_with "call builtin:len" => ((k_here; (with_reducible show wpAny _ _ (call (Value.builtin "len") [Value.ref _]) _ _ _); k_dflt (refine' my_len ?zzk1 ?zzk2 ?zzk3 ?_; (case zzk1 => k_asm); (case zzk2 => k_mem); (case zzk3 => first | assumption | omega); k_whole))))
  (k_with "callWith ref" => ((k_here; k_dflt (refine' callWith_Fn1 ?zzkf ?_; (case zzkf => with_reducible assumption); k_whole))))
  (k_with "And" => (((with_reducible show IsFn _ _ ∧ _); refine ⟨KeyFn.get (by with_reducible assumption) (by k_in) (by k_asm), ?_⟩; try dsimp only [List.nil_append, List.cons_append])))
  (k_with "CompEnd" => ((k_dflt (refine' compEnd_same ?zzF ?zzN ?zzoff ?zzsrc ?_; (case zzF => k_asm); (case zzN => k_asm); (case zzoff => first | assumption | ((simp only [LCg.Off3, and_true]); first | done | assumption)); (case zzsrc => lcg_src)))))
  exact True.intro
/-- the state of the line's loop -/
structure LSt where
  l : Addr
  vs : List Value
  es : List Ent
  n : Nat
  lv : List Value
  ls : List Int
  n2 : Nat
  D : List (Addr × Obj)
def LSt.Good (c : LSt) (tk : Nat) (ll : Addr) (b : Bool) (target : List Int) : Prop :=
  EntsIn c.D c.vs c.es ∧ IntsAre c.lv c.ls ∧ c.l ≠ ll ∧ (∀ p ∈ c.D, p.1 ≠ ll) ∧ GoodEs c.es ∧ c.ls.length = 5 ∧ c.es.length ≤ 5 ∧ plCount c.es ≤ 5 ∧ huff b c.es c.ls = target ∧ TokOk tk c.lv
abbrev lenStored : List Str := ["one", "two", "places", "place"]
/-- a turn's end -/
def LenPost (h₀ : Heap) (L : Addr) (s : Shared) (ll : Addr) (b : Bool) (target : List Int) (m₀ : Str → Option Value) (Q : Flow → Shared → Prop) (k : Nat) (f : Flow) (s₂ : Shared) : Prop :=
  match f with
  | .ret v => Q (.ret v) s₂
  | .brk => Q .next s₂
  | _ => ∃ (c' : LSt) (h' : Heap) (tk : Nat) (m' : Str → Option Value) (news' : List (Addr × Obj)), s₂ = { s with heap := h', toks := tk } ∧ Fr h₀ L h' m' ∧ News h₀ L h' news' ∧
      (c'.l, listOf c'.vs.toArray c'.n) ∈ news' ∧ (ll, listOf c'.lv.toArray c'.n2) ∈ news' ∧ (∀ p ∈ c'.D, p ∈ news') ∧ m' "line" = some (.ref c'.l) ∧ (∀ z : Str, z ≠ "line" → lenStored.contains z = false → m' z = m₀ z) ∧ c'.Good tk ll b target ∧ c'.es.length < k
theorem LenPost.intro {h₀ h' : Heap} {L ll l' : Addr} {s : Shared} {b : Bool} {target : List Int} {m₀ m' : Str → Option Value} {Q : Flow → Shared → Prop} {k tk n' n2' : Nat} {news' D' : List (Addr × Obj)} {vs' lv' : List Value} {es' : List Ent} {ls' : List Int}
    (F : Fr h₀ L h' m') (N : News h₀ L h' news') (hE : EntsIn D' vs' es') (hi : IntsAre lv' ls') (hl : (l', listOf vs'.toArray n') ∈ news') (hll : (ll, listOf lv'.toArray n2') ∈ news') (hD : ∀ p ∈ D', p ∈ news') (hm : m' "line" = some (.ref l')) (hr : ∀ z : Str, z ≠ "line" → lenStored.contains z = false → m' z = m₀ z)
    (hne : l' ≠ ll) (hDl : ∀ p ∈ D', p.1 ≠ ll) (hg : GoodEs es') (h5 : ls'.length = 5) (he5 : es'.length ≤ 5) (hpc : plCount es' ≤ 5) (ht : huff b es' ls' = target) (htk : TokOk tk lv') (hlt : es'.length < k) :
    LenPost h₀ L s ll b target m₀ Q k .next { s with heap := h', toks := tk } :=
  ⟨⟨l', vs', es', n', lv', ls', n2', D'⟩, h', tk, m', news', rfl, F, N, hl, hll, hD, hm, hr, ⟨hE, hi, hne, hDl, hg, h5, he5, hpc, ht, htk⟩, hlt⟩
theorem len_while {prog : Program} {w : World} {A : Around} {E : Value → Shared → Prop} {Q : Flow → Shared → Prop} {s : Shared} {env : Env} {h₀ : Heap} {L ll line : Addr} {test : PySem.Expr} {body : List Stmt} {pos : Pos} {m₀ : Str → Option Value} {news D : List (Addr × Obj)} {vs lv : List Value} {es : List Ent} {ls : List Int} {n n2 : Nat} (b : Bool)
    (F : Fr h₀ L s.heap m₀) (N : News h₀ L s.heap news) (h1 : m₀ "line" = some (.ref line)) (h2 : m₀ "lengths" = some (.ref ll)) (hE : EntsIn D vs es) (hl : (line, listOf vs.toArray n) ∈ news) (hll : (ll, listOf lv.toArray n2) ∈ news) (hi : IntsAre lv ls) (hD : ∀ p ∈ D, p ∈ news)
    (hne : line ≠ ll) (hDl : ∀ p ∈ D, p.1 ≠ ll) (hg : GoodEs es) (h5 : ls.length = 5) (he5 : es.length ≤ 5) (hpc : plCount es ≤ 5) (htk : TokOk s.toks lv)
    (turn : ∀ (l a0 b0 a1 b1 : Addr) (w0 w1 : Int) (t0 t1 : Tok) (k0 k1 c0 c1 n n2 : Nat) (p0 p1 vs lv : List Value) (q0 q1 ls : List Int) (es : List Ent) (D : List (Addr × Obj)) (u : Str → Option Value) h tk,
      (a0, tupOf [.int w0 t0, .ref b0] k0) ∈ D → (b0, listOf p0.toArray c0) ∈ D → IntsAre p0 q0 → (a1, tupOf [.int w1 t1, .ref b1] k1) ∈ D → (b1, listOf p1.toArray c1) ∈ D → IntsAre p1 q1 →
      EntsIn D vs es → IntsAre lv ls → TokOk tk lv → l ≠ ll → (∀ p ∈ D, p.1 ≠ ll) → GoodEs es → (∀ p ∈ q0 ++ q1, 0 ≤ p ∧ p < 5) → IntsAre (p0 ++ p1) (q0 ++ q1) → ls.length = 5 → es.length ≤ 3 → vs.length = es.length → (List.length (Value.ref a0 :: Value.ref a1 :: vs)) = es.length + 2 → p0.length + p1.length ≤ 5 → q0.length + q1.length + plCount es ≤ 5 → huff b (insE b (w0 + w1, q0 ++ q1) es) (bumpAll ls (q0 ++ q1)) = huff b es₀ ls₀ →
      Fr h₀ L h (kstB (fun z => if lenStored.contains z then u z else m₀ z) [("line", .ref l)]) → News h₀ L h ((l, listOf (List.toArray (.ref a0 :: .ref a1 :: vs)) n) :: (ll, listOf lv.toArray n2) :: D) →
      wpAny (model prog w) A (isTrue test env (eval test env)) (fun b' s₂ =>
        if b' = true then wpAny (model prog w) A (execs body env) (LenPost h₀ L s ll b (huff b es₀ ls₀) m₀ Q (es.length + 2)) E s₂ else Q .next s₂) E { s with heap := h, toks := tk })
    (done : ∀ (l : Addr) (n n2 : Nat) (vs lv : List Value) (ls : List Int) (D : List (Addr × Obj)) (u : Str → Option Value) h tk, vs.length < 2 → IntsAre lv ls → TokOk tk lv → huff b es₀ ls₀ = ls →
      Fr h₀ L h (kstB (fun z => if lenStored.contains z then u z else m₀ z) [("line", .ref l)]) → News h₀ L h ((l, listOf vs.toArray n) :: (ll, listOf lv.toArray n2) :: D) →
      wpAny (model prog w) A (isTrue test env (eval test env)) (fun b' s₂ =>
        if b' = true then wpAny (model prog w) A (execs body env) (LenPost h₀ L s ll b (huff b es₀ ls₀) m₀ Q 0) E s₂ else Q .next s₂) E { s with heap := h, toks := tk })
    (he₀ : es₀ = es) (hl₀ : ls₀ = ls)
    (hPE : PassesOwn (model prog w) A env E := by passes_own) :
    wpAny (model prog w) A (exec (.While test body [] pos) env) Q E s := by
  subst he₀
  subst hl₀
  refine while_T (n := es₀.length) (fun n tk m nx => ∃ c : LSt, c.es.length = n ∧ nx = (c.l, listOf c.vs.toArray c.n) :: (ll, listOf c.lv.toArray c.n2) :: c.D ∧ m "line" = some (.ref c.l) ∧ (∀ z : Str, z ≠ "line" → lenStored.contains z = false → m z = m₀ z) ∧ c.Good tk ll b (huff b es₀ ls₀)) F ?_
    ⟨⟨line, vs, es₀, n, lv, ls₀, n2, D⟩, rfl, rfl, h1, fun _ _ _ => rfl, hE, hi, hne, hDl, hg, h5, he5, hpc, rfl, htk⟩ ?_ hPE
  · intro p hp
    rcases List.mem_cons.mp hp with rfl | hp
    · exact N _ hl
    · rcases List.mem_cons.mp hp with rfl | hp
      · exact N _ hll
      · exact N _ (hD p hp)
  · rintro n0 tk u nx h ⟨⟨l, vs, es, n, lv, ls, n2, D⟩, rfl, rfl, hm1, hm2, gE, gi, gne, gDl, gg, g5, ge5, gpc, gt, gtk⟩ _ F₁ N₁
    dsimp only at gE gi gne gDl gg g5 ge5 gpc gt gtk N₁ hm1
    replace F₁ := ksw_fr (ps := [("line", .ref l)]) (fun p hp => by rw [List.mem_singleton.mp hp]; exact hm1) (fun z hz hs => hm2 z (hz _ (.head _)) hs) F₁
    have post : ∀ (k : Nat) (f : Flow) (s₂ : Shared), k ≤ es.length → LenPost h₀ L s ll b (huff b es₀ ls₀) m₀ Q k f s₂ → WStep h₀ L s (fun n tk m nx => ∃ c : LSt, c.es.length = n ∧ nx = (c.l, listOf c.vs.toArray c.n) :: (ll, listOf c.lv.toArray c.n2) :: c.D ∧ m "line" = some (.ref c.l) ∧ (∀ z : Str, z ≠ "line" → lenStored.contains z = false → m z = m₀ z) ∧ c.Good tk ll b (huff b es₀ ls₀)) es.length Q f s₂ := by
      intro k f s₂ hk hp
      have fin : (∃ (c' : LSt) (h' : Heap) (tk : Nat) (m' : Str → Option Value) (news' : List (Addr × Obj)), s₂ = { s with heap := h', toks := tk } ∧ Fr h₀ L h' m' ∧ News h₀ L h' news' ∧
          (c'.l, listOf c'.vs.toArray c'.n) ∈ news' ∧ (ll, listOf c'.lv.toArray c'.n2) ∈ news' ∧ (∀ p ∈ c'.D, p ∈ news') ∧ m' "line" = some (.ref c'.l) ∧ (∀ z : Str, z ≠ "line" → lenStored.contains z = false → m' z = m₀ z) ∧ c'.Good tk ll b (huff b es₀ ls₀) ∧ c'.es.length < k) →
          ∃ h' tk m' nx n', s₂ = { s with heap := h', toks := tk } ∧ Fr h₀ L h' m' ∧ News h₀ L h' nx ∧ n' < es.length ∧ ∃ c : LSt, c.es.length = n' ∧ nx = (c.l, listOf c.vs.toArray c.n) :: (ll, listOf c.lv.toArray c.n2) :: c.D ∧ m' "line" = some (.ref c.l) ∧ (∀ z : Str, z ≠ "line" → lenStored.contains z = false → m' z = m₀ z) ∧ c.Good tk ll b (huff b es₀ ls₀) := by
        rintro ⟨c', h', tk', m', news', e, F', N', x1, x2, x3, x4, x5, x6, x7⟩
        refine ⟨h', tk', m', _, c'.es.length, e, F', fun p hp => ?_, Nat.lt_of_lt_of_le x7 hk, c', rfl, rfl, x4, x5, x6⟩
        rcases List.mem_cons.mp hp with rfl | hp
        · exact N' _ x1
        · rcases List.mem_cons.mp hp with rfl | hp
          · exact N' _ x2
          · exact N' _ (x3 p hp)
      cases f with
      | ret v => exact hp
      | brk => exact hp
      | next => exact fin hp
      | cont => exact fin hp
    by_cases h2' : es.length < 2
    · refine wpAny_mono (done l n n2 vs lv ls D u h tk (by rw [gE.length]; exact h2') gi gtk (by rw [← gt, huff_done _ _ _ h2']) F₁ N₁) (fun b' s₂ hb => ?_) fun _ _ x => x
      cases b' with
      | false => simpa using hb
      | true =>
        simp only [if_true] at hb ⊢
        exact wpAny_mono hb (fun f s₃ hf => post 0 f s₃ (Nat.zero_le _) hf) fun _ _ x => x
    · obtain ⟨v0, vs1, e0, es1, rfl, rfl, r0, gE1, q0⟩ := gE.uncons (n := es.length - 1) (by omega)
      obtain ⟨v1, vs2, e1, es2, rfl, rfl, r1, gE2, q1⟩ := gE1.uncons (n := es1.length - 1) (by simp only [List.length_cons] at h2'; omega)
      cases r0 with
      | mk x1 x2 x3 =>
        cases r1 with
        | mk y1 y2 y3 =>
          refine wpAny_mono (turn l _ _ _ _ _ _ _ _ _ _ _ _ n n2 _ _ vs2 lv _ _ ls es2 D u h tk x1 x2 x3 y1 y2 y3 gE2 gi gtk gne gDl (fun e he => gg e (.tail _ (.tail _ he))) (fun p hp => (List.mem_append.mp hp).elim (fun hh => gg _ (.head _) p hh) (fun hh => gg _ (.tail _ (.head _)) p hh)) (x3.append y3) g5 (by simp only [List.length_cons] at ge5; omega) gE2.length (by simp only [List.length_cons]; rw [gE2.length]) (by rw [x3.length, y3.length]; simp only [plCount_cons] at gpc; omega) (by simp only [plCount_cons] at gpc; omega) (by rw [← gt, huff_step]) F₁ N₁) (fun b' s₂ hb => ?_) fun _ _ x => x
          cases b' with
          | false => simpa using hb
          | true =>
            simp only [if_true] at hb ⊢
            exact wpAny_mono hb (fun f s₃ hf => post _ f s₃ (by simp only [List.length_cons]; omega) hf) fun _ _ x => x

end
section
theorem words_turns : True := by
  k_with_none
  (k_with "CJ" => (with_reducible first | assumption | exact cj0 ‹_› | exact cj1 ‹_› | exact cl1 ‹_› | exact cj2 ‹_› | exact cl2 ‹_› | exact cj3 ‹_› | exact cl3 ‹_› | exact cj4 ‹_› | exact cl4 ‹_› | exact cj5 ‹_› | exact cl5 ‹_› | exact cj6 ‹_› | exact cl6 ‹_› | exact cj7 ‹_› | exact cl7 ‹_› | exact cj8 ‹_› | exact cl8 ‹_› | exact cj9 ‹_› | exact cl9 ‹_› | exact cj10 ‹_› | exact cl10 ‹_› | exact cj11 ‹_› | exact cl11 ‹_› | exact cj12 ‹_› | exact cl12 ‹_›))
  (k_with "k_ne" => (((refine neN ?_); (try dsimp only); first | exact Nat.ne_of_gt (by k_extra "CJ") | exact Nat.ne_of_lt (by k_extra "CJ") | k_extra "CJ" | exact Ne.symm (by k_extra "CJ"))))
  (k_with "ktr_room" => (first | exact rm0 ‹_› | exact rm1 ‹_› rfl | exact rm2 ‹_› rfl | exact rm3 ‹_› rfl))
  (k_with "ktr_units" => (first | exact rm0 ‹_› | exact rm1 ‹_› rfl | exact rm2 ‹_› rfl | exact rm3 ‹_› rfl))
  (k_with "k_mem" => (first | exact List.Mem.head _ | (refine' List.Mem.tail _ ?_; k_mem) | (show (_ : Addr × Obj) ∈ (_ : List (Addr × Obj)); with_reducible assumption)))
  (k_with "callWith ref" => ((k_here; k_dflt (first | (refine' callWith_K ?zzk1 ?zzk2 ?_; (case zzk1 => k_asm); (case zzk2 => k_is); k_whole) | (refine' callWith_KW ?zzk1 ?zzk2 ?zzk3 ?_; (case zzk1 => k_asm); (case zzk2 => k_is); (case zzk3 => exact rfl); k_whole)))))
  (k_with "call builtin:len" => ((k_here; (with_reducible show wpAny _ _ (call (Value.builtin "len") [Value.ref _]) _ _ _); k_dflt (refine' my_len ?zzk1 ?zzk2 ?zzk3 ?_; (case zzk1 => k_asm); (case zzk2 => k_mem); (case zzk3 => first | assumption | omega); k_whole))))
  (k_with "callWith ref" => ((k_here; k_dflt (refine' callWith_Fn1 ?zzkf ?_; (case zzkf => with_reducible assumption); k_whole))))
  (k_with "And" => (((with_reducible show IsFn _ _ ∧ _); refine ⟨KeyFn.get (by with_reducible assumption) (by k_in) (by k_asm), ?_⟩; try dsimp only [List.nil_append, List.cons_append])))
  (k_with "SAME" => (first | exact Same.refl _ _ | (intros z h9; (simp only [List.contains_cons, List.contains_nil, Bool.or_false, Bool.or_eq_false_iff, beq_eq_false_iff_ne, ne_eq] at h9); simp [h9])))
  (k_with "SUBS" => (first | exact List.forall_mem_nil _ | (refine List.forall_mem_cons.mpr ⟨by k_mem, ?_⟩; walk_at "SUBS")))
  (k_with "CompEnd" => ((k_dflt (refine' compEnd_same ?zzF ?zzN ?zzoff ?zzsrc ?_; (case zzF => k_asm); (case zzN => k_asm); (case zzoff => first | assumption | ((simp only [LCg.Off3, and_true]); first | done | assumption)); (case zzsrc => lcg_src)))))
  exact True.intro
theorem len_frame {u m₀ : Str → Option Value} {l ll : Addr} {b : Bool} (h1 : m₀ "lengths" = some (.ref ll)) (h2 : m₀ "behind" = some (.bool b)) :
    kstB (fun z => if lenStored.contains z then u z else m₀ z) [("line", .ref l)] = fun y : Str => if y = "line" then some (.ref l) else if y = "lengths" then some (.ref ll) else if y = "behind" then some (.bool b) else if lenStored.contains y then u y else m₀ y := by
  funext y
  simp only [kstB]
  by_cases e1 : y = "line"
  · rw [if_pos e1, if_pos e1]
  · rw [if_neg e1, if_neg e1]
    by_cases e2 : y = "lengths"
    · rw [if_pos e2, e2, if_neg (by decide), h1]
    · rw [if_neg e2]
      by_cases e3 : y = "behind"
      · rw [if_pos e3, e3, if_neg (by decide), h2]
      · rw [if_neg e3]
theorem pick_l (p q : List Value) : kms_pick (p ++ q) none (some (p.length : Int)) = p := by
  rw [pick_upto (by omega)]
  simp
theorem pick_r (p q : List Value) : kms_pick (p ++ q) (some (p.length : Int)) none = q := by
  rw [pick_from (by omega)]
  simp
theorem pick_2 (a b : Value) (l : List Value) : kms_pick (a :: b :: l) (some 2) none = l := by
  rw [pick_from (by omega)]
  rfl
theorem my_slice_lit {prog : Program} {w : World} {A : Around} {E : Value → Shared → Prop} {s : Shared} {h₀ : Heap} {L l : Addr} {m : Str → Option Value} {news : List (Addr × Obj)} {value slice : PySem.Expr} {us zs : List Value} {c : Nat} {vl vu : Value} {lo hi : Option Int} {Q : Value → Shared → Prop}
    (F : Fr h₀ L s.heap m) (N : News h₀ L s.heap news) (hm : (l, listOf us.toArray c) ∈ news) (pl : IsPart vl lo) (pu : IsPart vu hi) (e : kms_pick us lo hi = zs) (hfit : us.length < 1000)
    (h : ∀ D h', Fr h₀ L h' m → News h₀ L h' ((D, listOf zs.toArray 0) :: news) → (∀ p ∈ news, p.1 < D) → Q (.ref D) { s with heap := h' })
    (hs : subscripted slice false (.ref l) (.ref s.heap.objs.size) = operate [.ref s.heap.objs.size, .ref l] (getItem (.ref l) (.ref s.heap.objs.size))) (ht : ∀ r, letTemporaryGo value (.ref l) r = pure ()) :
    wpAny (model prog w) A (subscriptTail value slice (.ref l) (.ref s.heap.objs.size)) Q E { s with heap := s.heap.push { cls := .type "slice", data := .fields #[vl, vu, .none] } } := by
  subst e
  exact my_slice F N hm hfit pl pu h hs ht
/-- two lists of the same ints are not unlike -/
theorem ne_false {prog : Program} {w : World} {A : Around} {E : Value → Shared → Prop} {s : Shared} {h₀ : Heap} {L a b : Addr} {news : List (Addr × Obj)} {us : List Value} {ns : List Int} {c c2 : Nat} {Q : Value → Shared → Prop}
    (N : News h₀ L s.heap news) (ha : (a, listOf us.toArray c) ∈ news) (hb : (b, listOf us.toArray c2) ∈ news) (hi : IntsAre us ns) (hu : A.units + 64 < cLine) (h : Q (.bool false) s) :
    wpAny (model prog w) A (compareOp .NotEq (.ref a) (.ref b)) Q E s :=
  ke_ne_ints ⟨_, (N _ ha).1, rfl, c, rfl⟩ ⟨_, (N _ hb).1, rfl, c2, rfl⟩ hi hi hu (by simpa using h)
theorem words_turns_1 : True := by
  (k_with "passes_own" => (assumption))
  (k_with "SUBL" => (first | exact List.forall_mem_nil _ | (refine List.forall_mem_cons.mpr ⟨by k_mem, ?_⟩; walk_at "SUBL") | (intro p9 h9; kst_mem)))
  (k_with "k_all" => (with_reducible assumption))
  (k_with "NEALL" => (first | exact List.forall_mem_nil _ | (refine List.forall_mem_cons.mpr ⟨?zzna, ?zznb⟩; (case zzna => k_ne); (case zznb => walk_at "NEALL"))))
  (k_with "GOODES" => (first | with_reducible exact goodEs_nil | (refine GoodEs.ins ?zzga ?zzgb; (case zzgb => (intro p9 h9; (have h8 := List.mem_singleton.mp h9); subst h8; decide)); (case zzga => walk_at "GOODES"))))
  (k_with "call ref" => ((k_here; k_dflt ((first | refine' iR_ent ?zzk1 ?zzk2 ?zzk3 ?zzk4 ?zzk5 ?zzkK ?zzkd ?zzku ?zzkE ?zzkU ?zzkD ?zzkX ?zzkY ?zzkI ?zzkn ?_ | refine' iL_ent ?zzk1 ?zzk2 ?zzk3 ?zzk4 ?zzk5 ?zzkK ?zzkd ?zzku ?zzkE ?zzkU ?zzkD ?zzkX ?zzkY ?zzkI ?zzkn ?_); (case zzk1 => k_asm); (case zzk2 => k_asm); (case zzk3 => k_asm); (case zzk4 => k_asm); (case zzk5 => k_asm); (case zzkX => k_mem); (case zzkY => k_mem); (case zzkI => first | assumption | exact IntsAre.cons _ _ IntsAre.nil | l_ints); (case zzkU => k_updF); (case zzkE => first | exact (All2.nil : EntsIn [] [] []) | assumption); (case zzkD => walk_at "SUBL"); (case zzkn => first | omega | (simp only [insE_length, List.length_nil]; omega)); (case zzkK => first | exact rfl | assumption); (case zzkd => ktr_room); (case zzku => ktr_units); k_whole); intro v9 h9 tk9 F9 N9 E9; (try dsimp only); (try k_fold))))
  (k_with "call ref" => ((k_here; k_dflt (refine' c_concat ?zzk1 ?zzk2 ?zzk3 ?zzk4 ?zzk5 ?zzkK ?zzkd ?zzku ?zzkX ?zzkY ?zzka ?zzkb ?_; (case zzk1 => k_asm); (case zzk2 => k_asm); (case zzk3 => k_asm); (case zzk4 => k_asm); (case zzk5 => k_asm); (case zzkX => k_mem); (case zzkY => k_mem); (case zzka => omega); (case zzkb => omega); (case zzkK => first | exact rfl | assumption); (case zzkd => ktr_room); (case zzku => ktr_units); k_whole); intro r9 h9 tk9 F9 N9 l1; (try k_lt l1); (try dsimp only); (try k_fold))))
  (k_with "subscriptTail" => ((k_here; (with_reducible show wpAny _ _ (subscriptTail _ _ (Value.ref _) (Value.int _ _)) _ _ _); k_dflt (refine' my_itemC ?zzk1 ?zzk2 ?zzk4 ?zzk5 ?zzk6 ?_; (case zzk1 => k_asm); (case zzk2 => k_mem); (case zzk4 => decide); (case zzk5 => decide); (case zzk6 => exact rfl); k_whole))))
  (k_with "subscriptTail Name Constant ref int" => ((k_here; k_dflt (refine' my_tupC ?zzk1 ?zzk2 ?zzk3 ?zzk4 ?zzk5 ?zzk6 ?_; (case zzk1 => k_asm); (case zzk2 => k_mem); (case zzk3 => decide); (case zzk4 => decide); (case zzk5 => exact rfl); (case zzk6 => exact rfl); k_whole))))
  (k_with "subscriptTail Name Slice ref ref" => ((k_here; (with_reducible show wpAny _ _ (subscriptTail _ (PySem.Expr.Slice _ _ none _) (Value.ref _) (Value.ref _)) _ _ _); k_dflt (refine' my_slice_lit ?zzF ?zzN ?zzl ?zzp ?zzq ?zze ?zzz ?_ ?zzs ?zzt; (case zzF => k_asm); (case zzN => k_asm); (case zzl => k_mem); (case zzp => kmk_part); (case zzq => kmk_part); (case zze => first | exact pick_2 _ _ _ | exact pick_l _ _ | exact pick_r _ _); (case zzz => first | omega | (simp only [List.length_append]; omega)); (case zzs => with_unfolding_all rfl); (case zzt => kmk_pure)); intro D' h' F' N' l1; (try k_lt l1); (try k_sweep))))
  (k_with "compareOp NotEq ref ref" => ((k_here; k_dflt (refine' ne_false ?zzN ?zza ?zzb ?zzi ?zzu ?_; (case zzN => k_asm); (case zza => k_mem); (case zzb => k_mem); (case zzi => with_reducible assumption); (case zzu => ktr_units); k_whole))))
  (k_with "execs cons" => (((with_reducible refine execs_grow ?_); try dsimp only)))
  (k_with "Grown" => ((refine Grown.intro fun hg9 => ?_; (first | ((rename TokOk _ _ => hT8); (have hT7 := TokOk.mono hT8 (Nat.le_trans (by (try dsimp only); omega) hg9)); (try dsimp only at hT7)) | skip); clear hg9)))
  exact True.intro
theorem turnB {b : Bool} {prog : Program} {w : World} {loose : List Str} {mean : ExcName → Option Value} {mg mb : Str → Option Value}
    {dp un : Nat} {gd : Option (List Code)} {cn : Str} {cs : Scope} {a : Addr} {ccd : Value} {cl : List (Str × Addr)} {outer : List Env} {base : Heap} {L : Addr} {s : Shared} {E : Value → Shared → Prop}
    {ll : Addr} {scope : Scope} {test : PySem.Expr} {body : List Stmt} {pos : Pos} {g' : Heap} {L' : Addr} {m₀ : Str → Option Value} {QF : Flow → Shared → Prop} {target : List Int}
    (hS : fnScope w.params 170 = some scope) (hW : nthStmt (fnBody w.params 170) 3 = some (.While test body [] pos))
    (B : Below (ktrTop dp un gd cn cs L a ccd cl outer) base (envX cn cs L a ccd cl :: outer) g') (X : (hd.heap_39 w.params).In g') (T : Top topProg loose mean mg mb g') (hdp : dp + 10 < recursionLimit) (hun : un + 300 < cLine) (hm₀ : m₀ "lengths" = some (.ref ll))
    (l a0 b0 a1 b1 : Addr) (y0 y1 : Int) (u0 u1 : Tok) (k0 k1 c0 c1 n n2 : Nat) (p0 p1 vs lv : List Value) (q0 q1 ls : List Int) (es : List Ent) (D : List (Addr × Obj)) (u : Str → Option Value) (h : Heap) (tk : Nat)
    (m0 : (a0, tupOf [.int y0 u0, .ref b0] k0) ∈ D) (m1 : (b0, listOf p0.toArray c0) ∈ D) (m2 : IntsAre p0 q0) (m3 : (a1, tupOf [.int y1 u1, .ref b1] k1) ∈ D) (m4 : (b1, listOf p1.toArray c1) ∈ D) (m5 : IntsAre p1 q1)
    (hEs : EntsIn D vs es) (hLv : IntsAre lv ls) (hT : TokOk tk lv) (hne : l ≠ ll) (hDl : ∀ p ∈ D, p.1 ≠ ll) (hg : GoodEs es) (hq : ∀ p ∈ q0 ++ q1, 0 ≤ p ∧ p < 5) (hpq : IntsAre (p0 ++ p1) (q0 ++ q1)) (h5 : ls.length = 5) (h3 : es.length ≤ 3) (hvl : vs.length = es.length)
    (hcl : (List.length (Value.ref a0 :: Value.ref a1 :: vs)) = es.length + 2) (hpl : p0.length + p1.length ≤ 5) (hpc : q0.length + q1.length + plCount es ≤ 5) (ht : huff b (insE b (y0 + y1, q0 ++ q1) es) (bumpAll ls (q0 ++ q1)) = target)
    (FF : Fr g' L' h (kstB (fun z => if lenStored.contains z then u z else m₀ z) [("line", .ref l)])) (NN : News g' L' h ((l, listOf (List.toArray (.ref a0 :: .ref a1 :: vs)) n) :: (ll, listOf lv.toArray n2) :: D)) (hb : m₀ "behind" = some (.bool b))
    (hPE : PassesOwn (model prog w) ((ktrTop dp un gd cn cs L a ccd cl outer).deeper (envOf "_law_lengths" scope L' 170 (.ref 169))) (envOf "_law_lengths" scope L' 170 (.ref 169)) E) :
    wpAny (model prog w) ((ktrTop dp un gd cn cs L a ccd cl outer).deeper (envOf "_law_lengths" scope L' 170 (.ref 169))) (isTrue test (envOf "_law_lengths" scope L' 170 (.ref 169)) (eval test (envOf "_law_lengths" scope L' 170 (.ref 169)))) (fun b' s₂ =>
        if b' = true then wpAny (model prog w) ((ktrTop dp un gd cn cs L a ccd cl outer).deeper (envOf "_law_lengths" scope L' 170 (.ref 169))) (execs body (envOf "_law_lengths" scope L' 170 (.ref 169))) (LenPost g' L' s ll b target m₀ QF (es.length + 2)) E s₂ else QF .next s₂) E { s with heap := h, toks := tk } := by
  k_with "EPSON" => skip
  k_with "NE9" => repeat (with_reducible first | exact neSh | exact neAr | exact neEx | exact neWo | refine neP ?_ ?_ | infer_instance)
  k_with "RangeRest" => first
    | ((with_unfolding_all refine RangeRest.succ ?_); intro t' h' tk' F' N')
    | ((with_unfolding_all refine RangeRest.zero ?_); intro h' tk' F' N')
  k_with "CompRest" => first
    | ((with_unfolding_all refine LCg.CompRest.succ ?_); (first | (k_extra "EPSON"; refine no_implicit_lambda% (all_eps10 (i := by k_extra "NE9") ?_); generalize pj0 _ = v', pj1 _ = I', pj2 _ = oI', pj3 _ = C', pj4 _ = oC', pj5 _ = D', pj6 _ = m', pj7 _ = h', pj8 _ = tk', pj9 _ = E'; intro hv' hC' hx' F' N' off' ne') | intro v' I' oI' C' oC' D' m' h' tk' E' hv' hC' hx' F' N' off' ne'); (first | lcg_open hv' | (refine ex_elim hv' ?_; clear hv'; intro t9' hv9'; subst hv9')); (try simp only [LCg.Off3, and_true] at off'))
    | with_unfolding_all refine LCg.CompRest.zero ?_
  k_with "EPS1" => (refine no_implicit_lambda% (all_eps (i := by k_extra "NE9") ?_); generalize eps _ _ = xE9)
  k_with "EPSCELLS" => first
    | (have hY := PyProof.Rows.CellsAre.one Y'; refine ex_elim hY ?_; clear hY; intro o' hE'; obtain ⟨hE', d1'⟩ := hE'; subst hE'; clear Y')
    | (have hY := PyProof.Rows.CellsAre.two Y'; refine ex_elim hY ?_; clear hY; intro o' hY; refine ex_elim hY ?_; clear hY; intro o2' hY; obtain ⟨hE', d1', d2'⟩ := hY; subst hE'; clear Y')
    | (have hY := PyProof.Rows.CellsAre.three Y'; refine ex_elim hY ?_; clear hY; intro o' hY; refine ex_elim hY ?_; clear hY; intro o2' hY; refine ex_elim hY ?_; clear hY; intro o3' hY; obtain ⟨hE', d1', d2', d3'⟩ := hY; subst hE'; clear Y')
  k_with "EPSENT" => skip
  revert hS hW B X T hdp hun hm₀ m0 m1 m2 m3 m4 m5 hEs hLv hT hne hDl hg hq hpq h5 h3 hvl hcl hpl hpc ht FF NN hb hPE
  revert b prog w loose mean mg mb dp un gd cn cs a ccd cl outer base L s E ll scope test body pos g' L' m₀ QF target l a0 b0 a1 b1 y0 y1 u0 u1 k0 k1 c0 c1 n n2 p0 p1 vs lv q0 q1 ls es D u h tk
  refine no_implicit_lambda% (all_eps24 (i := by k_extra "NE9") ?_); generalize pj0 _ = b, pj1 _ = prog, pj2 _ = w, pj3 _ = loose, pj4 _ = mean, pj5 _ = mg, pj6 _ = mb, pj7 _ = dp, pj8 _ = un, pj9 _ = gd, pj10 _ = cn, pj11 _ = cs, pj12 _ = a, pj13 _ = ccd, pj14 _ = cl, pj15 _ = outer, pj16 _ = base, pj17 _ = L, pj18 _ = s, pj19 _ = E, pj20 _ = ll, pj21 _ = scope, pj22 _ = test, pj23 _ = body; refine no_implicit_lambda% (all_eps24 (i := by k_extra "NE9") ?_); generalize pj0 _ = pos, pj1 _ = g', pj2 _ = L', pj3 _ = m₀, pj4 _ = QF, pj5 _ = target, pj6 _ = l, pj7 _ = a0, pj8 _ = b0, pj9 _ = a1, pj10 _ = b1, pj11 _ = y0, pj12 _ = y1, pj13 _ = u0, pj14 _ = u1, pj15 _ = k0, pj16 _ = k1, pj17 _ = c0, pj18 _ = c1, pj19 _ = n, pj20 _ = n2, pj21 _ = p0, pj22 _ = p1, pj23 _ = vs; refine no_implicit_lambda% (all_eps9 (i := by k_extra "NE9") ?_); generalize pj0 _ = lv, pj1 _ = q0, pj2 _ = q1, pj3 _ = ls, pj4 _ = es, pj5 _ = D, pj6 _ = u, pj7 _ = h, pj8 _ = tk
  intros hS hW B X T hdp hun hm₀ m0 m1 m2 m3 m4 m5 hEs hLv hT hne hDl hg hq hpq h5 h3 hvl hcl hpl hpc ht FF NN hb hPE
  injection (show some _ = some scope from hS) with e0
  injection (show some (Stmt.While _ _ _ _) = some (Stmt.While test body [] pos) from hW) with e
  injection e with e1 e2 e3 e4
  subst e0 e1 e2
  clear hS hW e3 e4
  (k_with "exec For Name Name cons nil" => ((refine' For_at ?_); (rename Fr _ _ _ _ => lF'); (k_dflt (refine ld lF' (by rfl) ?_)); (rename TokOk _ _ => hT9); (refine' bump_at (ll := ll) (n2 := n2) ?kh ?kF ?kN ?kr ?kU hpq hLv h5 hT9 hq ?step ?fin); (case kh => exact rfl); (case kF => k_asm); (case kN => k_asm); (case kr => k_mem); (case kU => k_updF); (case' step => (clear lF' hT9; intro k9 t9 I9 o9 z9 h9 tk9 n9 lv9 ls9 hB91 hB92 hi9 hl9 hT9 l1 hnI9 lF9 lN9; (try k_lt l1); (try dsimp only); (try k_fold))); (case' fin => (clear lF' hT9; intro h9 tk9 n9 z9 lv9 hi9 hT9 lF9 lN9; (try dsimp only); (try k_fold)))))
  rw [len_frame hm₀ hb] at FF
  k_steps
  all_goals first
    | exact StepT.next (by assumption) (by assumption) (hnI9 _) (by walk_at "SUBS") fun _ => ⟨by walk_at "SAME", _, _, rfl, by assumption, TokOk.set (show TokOk tk9 lv9 by assumption) (by (try dsimp only); omega) (by (try dsimp only); omega) (by (try dsimp only); omega) _⟩
    | (rename b = _ => hbt
       (rename News _ _ _ _ => nE9); (rename All2 _ _ _ => hE9)
       refine LenPost.intro (by assumption) nE9 hE9 hi9 (by k_mem) (by k_mem) (by walk_at "SUBL") (by rfl) ?hr ?hne ?hDl (GoodEs.ins hg hq) ?h5 ?he5 ?hpc ?ht (by assumption) ?hlt
       case hr => (intro z h2 h3; simp only [List.contains_cons, List.contains_nil, Bool.or_false, Bool.or_eq_false_iff, beq_eq_false_iff_ne, ne_eq] at h3; simp [h2, h3]; split <;> first | (rename_i e8; rw [e8, hm₀]; done) | (split <;> first | (rename_i e8; rw [e8, hb]; done) | rfl))
       case hne => k_ne
       case hDl => (refine List.forall_mem_cons.mpr ⟨?_, List.forall_mem_cons.mpr ⟨?_, hDl⟩⟩ <;> k_ne)
       case h5 => (rw [bumpAll_length]; exact h5)
       case he5 => (rw [insE_length]; omega)
       case hpc => (rw [plCount_ins, List.length_append]; omega)
       case ht => (rw [← ht, hbt])
       case hlt => (rw [insE_length]; omega))

end
section
theorem words_lengths : True := by
  k_with_none
  (k_with "CJ" => (with_reducible first | assumption | exact cj0 ‹_› | exact cj1 ‹_› | exact cl1 ‹_› | exact cj2 ‹_› | exact cl2 ‹_› | exact cj3 ‹_› | exact cl3 ‹_› | exact cj4 ‹_› | exact cl4 ‹_› | exact cj5 ‹_› | exact cl5 ‹_› | exact cj6 ‹_› | exact cl6 ‹_› | exact cj7 ‹_› | exact cl7 ‹_› | exact cj8 ‹_› | exact cl8 ‹_› | exact cj9 ‹_› | exact cl9 ‹_› | exact cj10 ‹_› | exact cl10 ‹_› | exact cj11 ‹_› | exact cl11 ‹_› | exact cj12 ‹_› | exact cl12 ‹_›))
  (k_with "k_ne" => (((refine neN ?_); (try dsimp only); first | exact Nat.ne_of_gt (by k_extra "CJ") | exact Nat.ne_of_lt (by k_extra "CJ") | k_extra "CJ" | exact Ne.symm (by k_extra "CJ"))))
  (k_with "ktr_room" => (first | exact rm0 ‹_› | exact rm1 ‹_› rfl | exact rm2 ‹_› rfl | exact rm3 ‹_› rfl))
  (k_with "ktr_units" => (first | exact rm0 ‹_› | exact rm1 ‹_› rfl | exact rm2 ‹_› rfl | exact rm3 ‹_› rfl))
  (k_with "k_mem" => (first | exact List.Mem.head _ | (refine' List.Mem.tail _ ?_; k_mem) | (show (_ : Addr × Obj) ∈ (_ : List (Addr × Obj)); with_reducible assumption)))
  (k_with "BINDS" => (first | exact BindsTo.of_eq rfl | exact binds_K (by k_in) rfl (by k_is) rfl rfl rfl | (refine' kp_binds ?zzkx ?zzke; (case zzkx => k_in); (case zzke => exact fun _ => rfl))))
  (k_with "callWith ref" => ((k_here; k_dflt (first | (refine' callWith_K ?zzk1 ?zzk2 ?_; (case zzk1 => k_asm); (case zzk2 => k_is); k_whole) | (refine' callWith_KW ?zzk1 ?zzk2 ?zzk3 ?_; (case zzk1 => k_asm); (case zzk2 => k_is); (case zzk3 => exact rfl); k_whole)))))
  (k_with "call builtin:len" => ((k_here; (with_reducible show wpAny _ _ (call (Value.builtin "len") [Value.ref _]) _ _ _); k_dflt (refine' my_len ?zzk1 ?zzk2 ?zzk3 ?_; (case zzk1 => k_asm); (case zzk2 => k_mem); (case zzk3 => first | assumption | omega); k_whole))))
  (k_with "callWith ref" => ((k_here; k_dflt (refine' callWith_Fn1 ?zzkf ?_; (case zzkf => with_reducible assumption); k_whole))))
  (k_with "And" => (((with_reducible show IsFn _ _ ∧ _); refine ⟨KeyFn.get (by with_reducible assumption) (by k_in) (by k_asm), ?_⟩; try dsimp only [List.nil_append, List.cons_append])))
  (k_with "ENTERS" => ((refine wpAny_call ?_; first | k_dflt (refine' code_sub (D := []) ?zzk1 ?zzk2 ?zzk3 ?zzk4 ?zzk5 ?zzkD ?zzkR ?zzkA ?zzkF ?zzkK ?zzk6 ?zzk7 ?zzk8 ?zzk9 ?zzkB ?_ ?zzc2 ?zzc3 ?zzc4 ?zzc5; (case zzkA => exact rfl); (case zzkF => exact rfl); (case zzkK => assumption); (case zzk1 => k_asm); (case zzk2 => k_asm); (case zzk3 => k_asm); (case zzk4 => k_asm); (case zzk5 => k_asm); (case zzkD => exact fun _ hq => nomatch hq); (case zzkR => exact fun _ hq => ⟨hq, List.not_mem_nil⟩); (case zzk6 => k_is); (case zzk7 => k_is); (case zzk8 => ktr_room); (case zzk9 => walk_at "BINDS"); (case zzc5 => decide); (case zzkB => exact locs rfl); (case zzc2 => exact rfl); (case zzc3 => exact rfl); (case zzc4 => exact rfl); k_whole; (first | (k_extra "EPSENT"; refine no_implicit_lambda% (all_eps3 (i := by k_extra "NE9") ?_); generalize pj0 _ = g', pj1 _ = L', pj2 _ = h'; intro FG' F' N' B' X' T' NR' _) | intro g' L' h' FG' F' N' B' X' T' NR' _); (try dsimp only); (try k_lift B'); (try k_fold)) | k_dflt (refine' code_subC (D := []) ?zzk1 ?zzk2 ?zzk3 ?zzk4 ?zzk5 ?zzkD ?zzkR ?zzkA ?zzkF ?zzkK ?zzk6 ?zzk7 ?zzk8 ?zzk9 ?zzkB ?zzkN ?_ ?zzc2 ?zzc3 ?zzc4; (case zzkA => exact rfl); (case zzkF => exact rfl); (case zzkK => assumption); (case zzk1 => k_asm); (case zzk2 => k_asm); (case zzk3 => k_asm); (case zzk4 => k_asm); (case zzk5 => k_asm); (case zzkD => exact fun _ hq => nomatch hq); (case zzkR => exact fun _ hq => ⟨hq, List.not_mem_nil⟩); (case zzk6 => k_is); (case zzk7 => k_is); (case zzk8 => ktr_room); (case zzk9 => walk_at "BINDS"); (case zzkB => exact rfl); (case zzkN => decide +kernel); (case zzc2 => exact rfl); (case zzc3 => exact rfl); (case zzc4 => exact rfl); k_whole; (first | (k_extra "EPSENT"; refine no_implicit_lambda% (all_eps5 (i := by k_extra "NE9") ?_); generalize pj0 _ = g', pj1 _ = L', pj2 _ = h', pj3 _ = tk', pj4 _ = cells'; intro FG' F' N' Y' B' X' T' NR' _ hg9) | intro g' L' h' tk' cells' FG' F' N' Y' B' X' T' NR' _ hg9); k_cells Y'; (try simp only [List.cons_append, List.nil_append, List.append_nil] at N'); (try dsimp only); (try k_lift B'); (try k_fold)))))
  (k_with "CompEnd" => ((k_dflt (refine' compEnd_same ?zzF ?zzN ?zzoff ?zzsrc ?_; (case zzF => k_asm); (case zzN => k_asm); (case zzoff => first | assumption | ((simp only [LCg.Off3, and_true]); first | done | assumption)); (case zzsrc => lcg_src)))))
  exact True.intro
theorem words_lengths_1 : True := by
  (k_with "SUBL" => (first | exact List.forall_mem_nil _ | (refine List.forall_mem_cons.mpr ⟨by k_mem, ?_⟩; walk_at "SUBL") | (intro p9 h9; kst_mem)))
  (k_with "k_all" => (with_reducible assumption))
  (k_with "NEALL" => (first | exact List.forall_mem_nil _ | (refine List.forall_mem_cons.mpr ⟨?zzna, ?zznb⟩; (case zzna => k_ne); (case zznb => walk_at "NEALL"))))
  (k_with "GOODES" => (first | with_reducible exact goodEs_nil | (refine GoodEs.ins ?zzga ?zzgb; (case zzgb => (intro p9 h9; (have h8 := List.mem_singleton.mp h9); subst h8; decide)); (case zzga => walk_at "GOODES"))))
  (k_with "call ref" => ((k_here; k_dflt ((first | refine' iR_ent ?zzk1 ?zzk2 ?zzk3 ?zzk4 ?zzk5 ?zzkK ?zzkd ?zzku ?zzkE ?zzkU ?zzkD ?zzkX ?zzkY ?zzkI ?zzkn ?_ | refine' iL_ent ?zzk1 ?zzk2 ?zzk3 ?zzk4 ?zzk5 ?zzkK ?zzkd ?zzku ?zzkE ?zzkU ?zzkD ?zzkX ?zzkY ?zzkI ?zzkn ?_); (case zzk1 => k_asm); (case zzk2 => k_asm); (case zzk3 => k_asm); (case zzk4 => k_asm); (case zzk5 => k_asm); (case zzkX => k_mem); (case zzkY => k_mem); (case zzkI => first | assumption | exact IntsAre.cons _ _ IntsAre.nil | l_ints); (case zzkU => k_updF); (case zzkE => first | exact (All2.nil : EntsIn [] [] []) | assumption); (case zzkD => walk_at "SUBL"); (case zzkn => first | omega | (simp only [insE_length, List.length_nil]; omega)); (case zzkK => first | exact rfl | assumption); (case zzkd => ktr_room); (case zzku => ktr_units); k_whole); intro v9 h9 tk9 F9 N9 E9; (try dsimp only); (try k_fold))))
  (k_with "call ref" => ((k_here; k_dflt (refine' c_concat ?zzk1 ?zzk2 ?zzk3 ?zzk4 ?zzk5 ?zzkK ?zzkd ?zzku ?zzkX ?zzkY ?zzka ?zzkb ?_; (case zzk1 => k_asm); (case zzk2 => k_asm); (case zzk3 => k_asm); (case zzk4 => k_asm); (case zzk5 => k_asm); (case zzkX => k_mem); (case zzkY => k_mem); (case zzka => omega); (case zzkb => omega); (case zzkK => first | exact rfl | assumption); (case zzkd => ktr_room); (case zzku => ktr_units); k_whole); intro r9 h9 tk9 F9 N9 l1; (try k_lt l1); (try dsimp only); (try k_fold))))
  (k_with "subscriptTail" => ((k_here; (with_reducible show wpAny _ _ (subscriptTail _ _ (Value.ref _) (Value.int _ _)) _ _ _); k_dflt (refine' my_itemC ?zzk1 ?zzk2 ?zzk4 ?zzk5 ?zzk6 ?_; (case zzk1 => k_asm); (case zzk2 => k_mem); (case zzk4 => decide); (case zzk5 => decide); (case zzk6 => exact rfl); k_whole))))
  (k_with "subscriptTail Name Constant ref int" => ((k_here; k_dflt (refine' my_tupC ?zzk1 ?zzk2 ?zzk3 ?zzk4 ?zzk5 ?zzk6 ?_; (case zzk1 => k_asm); (case zzk2 => k_mem); (case zzk3 => decide); (case zzk4 => decide); (case zzk5 => exact rfl); (case zzk6 => exact rfl); k_whole))))
  (k_with "subscriptTail Name Slice ref ref" => ((k_here; (with_reducible show wpAny _ _ (subscriptTail _ (PySem.Expr.Slice _ _ none _) (Value.ref _) (Value.ref _)) _ _ _); k_dflt (refine' my_slice_lit ?zzF ?zzN ?zzl ?zzp ?zzq ?zze ?zzz ?_ ?zzs ?zzt; (case zzF => k_asm); (case zzN => k_asm); (case zzl => k_mem); (case zzp => kmk_part); (case zzq => kmk_part); (case zze => first | exact pick_2 _ _ _ | exact pick_l _ _ | exact pick_r _ _); (case zzz => first | omega | (simp only [List.length_append]; omega)); (case zzs => with_unfolding_all rfl); (case zzt => kmk_pure)); intro D' h' F' N' l1; (try k_lt l1); (try k_sweep))))
  (k_with "compareOp NotEq ref ref" => ((k_here; k_dflt (refine' ne_false ?zzN ?zza ?zzb ?zzi ?zzu ?_; (case zzN => k_asm); (case zza => k_mem); (case zzb => k_mem); (case zzi => with_reducible assumption); (case zzu => ktr_units); k_whole))))
  (k_with "execs cons" => (((with_reducible show wpAny _ _ (execs (Stmt.While _ _ _ _ :: _) _) _ _ _); (with_reducible refine wpAny_execs_cons ?_); try dsimp only)))
  (k_with "TOKZ" => (first | exact List.forall_mem_nil _ | (refine List.forall_mem_cons.mpr ⟨⟨_, rfl, ?zzkz⟩, ?zzkr⟩; (case zzkz => ((try dsimp only); omega)); (case zzkr => walk_at "TOKZ"))))
  exact True.intro
theorem c_lensR {prog : Program} {w : World} {loose : List Str} {mean : ExcName → Option Value} {mg mb : Str → Option Value}
    {dp un : Nat} {gd : Option (List Code)} {cn : Str} {cs : Scope} {a : Addr} {ccd : Value} {cl : List (Str × Addr)} {outer : List Env} {A₀ : Around} {base h₀ : Heap} {L : Addr} {m : Str → Option Value} {s : Shared} {Q E : Value → Shared → Prop} {news : List (Addr × Obj)}
    {l : Addr} {n : Nat} {w0 w1 w2 w3 w4 : Int} {t0 t1 t2 t3 t4 : Nat}
    (B : Below A₀ base outer h₀) (F : Fr h₀ L s.heap m) (X : (hd.heap_39 w.params).In h₀) (N : News h₀ L s.heap news) (T : Top topProg loose mean mg mb h₀) (hk : cs.kind = .function)
    (hdp : dp + 10 < recursionLimit) (hun : un + 300 < cLine) (hl : (l, listOf (List.toArray [.int w0 t0, .int w1 t1, .int w2 t2, .int w3 t3, .int w4 t4]) n) ∈ news)
    (hret : ∀ r vs' n' h' tk', Fr h₀ L h' m → News h₀ L h' ((r, listOf (List.toArray vs') n') :: news) → (∀ p ∈ news, p.1 ≠ r) → IntsAre vs' (lens true [w0, w1, w2, w3, w4]) → (∃ z, TokOk z vs') → Q (.ref r) { s with heap := h', toks := tk' }) :
    wpAny (model prog w) (ktrTop dp un gd cn cs L a ccd cl outer) (call (.ref 170) [.ref l, .bool true]) Q E s := by
  k_with "EPSON" => skip
  k_with "NE9" => repeat (with_reducible first | exact neSh | exact neAr | exact neEx | exact neWo | refine neP ?_ ?_ | infer_instance)
  k_with "RangeRest" => first
    | ((with_unfolding_all refine RangeRest.succ ?_); intro t' h' tk' F' N')
    | ((with_unfolding_all refine RangeRest.zero ?_); intro h' tk' F' N')
  k_with "CompRest" => first
    | ((with_unfolding_all refine LCg.CompRest.succ ?_); (first | (k_extra "EPSON"; refine no_implicit_lambda% (all_eps10 (i := by k_extra "NE9") ?_); generalize pj0 _ = v', pj1 _ = I', pj2 _ = oI', pj3 _ = C', pj4 _ = oC', pj5 _ = D', pj6 _ = m', pj7 _ = h', pj8 _ = tk', pj9 _ = E'; intro hv' hC' hx' F' N' off' ne') | intro v' I' oI' C' oC' D' m' h' tk' E' hv' hC' hx' F' N' off' ne'); (first | lcg_open hv' | (refine ex_elim hv' ?_; clear hv'; intro t9' hv9'; subst hv9')); (try simp only [LCg.Off3, and_true] at off'))
    | with_unfolding_all refine LCg.CompRest.zero ?_
  k_with "EPS1" => (refine no_implicit_lambda% (all_eps (i := by k_extra "NE9") ?_); generalize eps _ _ = xE9)
  k_with "EPSCELLS" => first
    | (have hY := PyProof.Rows.CellsAre.one Y'; refine ex_elim hY ?_; clear hY; intro o' hE'; obtain ⟨hE', d1'⟩ := hE'; subst hE'; clear Y')
    | (have hY := PyProof.Rows.CellsAre.two Y'; refine ex_elim hY ?_; clear hY; intro o' hY; refine ex_elim hY ?_; clear hY; intro o2' hY; obtain ⟨hE', d1', d2'⟩ := hY; subst hE'; clear Y')
    | (have hY := PyProof.Rows.CellsAre.three Y'; refine ex_elim hY ?_; clear hY; intro o' hY; refine ex_elim hY ?_; clear hY; intro o2' hY; refine ex_elim hY ?_; clear hY; intro o3' hY; obtain ⟨hE', d1', d2', d3'⟩ := hY; subst hE'; clear Y')
  k_with "EPSENT" => skip
  revert B F X N T hk hdp hun hl hret
  revert prog w loose mean mg mb dp un gd cn cs a ccd cl outer A₀ base h₀ L m s Q E news l n w0 w1 w2 w3 w4 t0 t1 t2 t3 t4
  refine no_implicit_lambda% (all_eps24 (i := by k_extra "NE9") ?_); generalize pj0 _ = prog, pj1 _ = w, pj2 _ = loose, pj3 _ = mean, pj4 _ = mg, pj5 _ = mb, pj6 _ = dp, pj7 _ = un, pj8 _ = gd, pj9 _ = cn, pj10 _ = cs, pj11 _ = a, pj12 _ = ccd, pj13 _ = cl, pj14 _ = outer, pj15 _ = A₀, pj16 _ = base, pj17 _ = h₀, pj18 _ = L, pj19 _ = m, pj20 _ = s, pj21 _ = Q, pj22 _ = E, pj23 _ = news; refine no_implicit_lambda% (all_eps12 (i := by k_extra "NE9") ?_); generalize pj0 _ = l, pj1 _ = n, pj2 _ = w0, pj3 _ = w1, pj4 _ = w2, pj5 _ = w3, pj6 _ = w4, pj7 _ = t0, pj8 _ = t1, pj9 _ = t2, pj10 _ = t3, pj11 _ = t4
  intros B F X N T hk hdp hun hl hret
  (k_with "exec While Compare cons nil" => ((rename Fr _ _ _ _ => lF'); (rename News _ _ _ _ => lN'); (rename All2 _ _ _ => lE'); (with_unfolding_all refine' len_while true lF' lN' ?h1 ?h2 lE' ?hl ?hll ?hi ?hD ?hne ?hDl ?hg ?h5 ?he5 ?hpc ?htk ?turn ?done ?e1 ?e2 ?hpe); (case h1 => exact rfl); (case h2 => exact rfl); (case hl => k_mem); (case hll => k_mem); (case hi => exact .cons _ _ (.cons _ _ (.cons _ _ (.cons _ _ (.cons _ _ .nil))))); (case hD => walk_at "SUBL"); (case hne => k_ne); (case hDl => walk_at "NEALL"); (case hg => walk_at "GOODES"); (case h5 => exact rfl); (case he5 => (simp only [insE_length, List.length_nil]; omega)); (case hpc => (simp only [plCount_ins, plCount_nil, List.length_cons, List.length_nil]; omega)); (case htk => exact tok_zeros (by walk_at "TOKZ")); (case e1 => exact rfl); (case e2 => exact rfl); (case hpe => passes_own); (case turn => (clear lF' lN' lE'; intro l a0 b0 a1 b1 y0 y1 u0 u1 k0 k1 c0 c1 n n2 p0 p1 vs lv q0 q1 ls es D u h tk m0 m1 m2 m3 m4 m5 hEs hLv hT hne hDl hg hq hpq h5 h3 hvl hcl hpl hpc ht FF NN; exact turnB (b := true) rfl rfl (by assumption) (by assumption) (by assumption) hdp hun rfl l a0 b0 a1 b1 y0 y1 u0 u1 k0 k1 c0 c1 n n2 p0 p1 vs lv q0 q1 ls es D u h tk m0 m1 m2 m3 m4 m5 hEs hLv hT hne hDl hg hq hpq h5 h3 hvl hcl hpl hpc ht FF NN rfl (by passes_own))); (case' done => (clear lF' lN' lE'; (repeat (rename All2 _ _ _ => hz9; clear hz9)); (repeat (rename (@LT.lt Nat _ _ _ ∧ _) => hz9; clear hz9)); intro l n n2 vs lv ls D u h tk hv hLv hT hls FF NN; (try k_fold)))))
  walk_at "ENTERS"
  have hw9 := news_isList (by assumption) hl
  k_steps
  (rename News _ _ _ _ => kN9)
  intro NR9
  have e9 : lens true [w0, w1, w2, w3, w4] = ls := by rw [← hls]; rfl
  exact hret _ _ _ _ _ (by assumption) (news_cons (fun p hp => by rw [List.mem_singleton.mp hp]; exact kN9 _ (.tail _ (.head _))) NR9) (fun p hp => news_apart NN (by assumption) p hp _ (.tail _ (.head _))) (by rw [e9]; exact hLv) ⟨_, hT⟩
theorem c_lensL {prog : Program} {w : World} {loose : List Str} {mean : ExcName → Option Value} {mg mb : Str → Option Value}
    {dp un : Nat} {gd : Option (List Code)} {cn : Str} {cs : Scope} {a : Addr} {ccd : Value} {cl : List (Str × Addr)} {outer : List Env} {A₀ : Around} {base h₀ : Heap} {L : Addr} {m : Str → Option Value} {s : Shared} {Q E : Value → Shared → Prop} {news : List (Addr × Obj)}
    {l : Addr} {n : Nat} {w0 w1 w2 w3 w4 : Int} {t0 t1 t2 t3 t4 : Nat}
    (B : Below A₀ base outer h₀) (F : Fr h₀ L s.heap m) (X : (hd.heap_39 w.params).In h₀) (N : News h₀ L s.heap news) (T : Top topProg loose mean mg mb h₀) (hk : cs.kind = .function)
    (hdp : dp + 10 < recursionLimit) (hun : un + 300 < cLine) (hl : (l, listOf (List.toArray [.int w0 t0, .int w1 t1, .int w2 t2, .int w3 t3, .int w4 t4]) n) ∈ news)
    (hret : ∀ r vs' n' h' tk', Fr h₀ L h' m → News h₀ L h' ((r, listOf (List.toArray vs') n') :: news) → (∀ p ∈ news, p.1 ≠ r) → IntsAre vs' (lens false [w0, w1, w2, w3, w4]) → (∃ z, TokOk z vs') → Q (.ref r) { s with heap := h', toks := tk' }) :
    wpAny (model prog w) (ktrTop dp un gd cn cs L a ccd cl outer) (call (.ref 170) [.ref l, .bool false]) Q E s := by
  k_with "EPSON" => skip
  k_with "NE9" => repeat (with_reducible first | exact neSh | exact neAr | exact neEx | exact neWo | refine neP ?_ ?_ | infer_instance)
  k_with "RangeRest" => first
    | ((with_unfolding_all refine RangeRest.succ ?_); intro t' h' tk' F' N')
    | ((with_unfolding_all refine RangeRest.zero ?_); intro h' tk' F' N')
  k_with "CompRest" => first
    | ((with_unfolding_all refine LCg.CompRest.succ ?_); (first | (k_extra "EPSON"; refine no_implicit_lambda% (all_eps10 (i := by k_extra "NE9") ?_); generalize pj0 _ = v', pj1 _ = I', pj2 _ = oI', pj3 _ = C', pj4 _ = oC', pj5 _ = D', pj6 _ = m', pj7 _ = h', pj8 _ = tk', pj9 _ = E'; intro hv' hC' hx' F' N' off' ne') | intro v' I' oI' C' oC' D' m' h' tk' E' hv' hC' hx' F' N' off' ne'); (first | lcg_open hv' | (refine ex_elim hv' ?_; clear hv'; intro t9' hv9'; subst hv9')); (try simp only [LCg.Off3, and_true] at off'))
    | with_unfolding_all refine LCg.CompRest.zero ?_
  k_with "EPS1" => (refine no_implicit_lambda% (all_eps (i := by k_extra "NE9") ?_); generalize eps _ _ = xE9)
  k_with "EPSCELLS" => first
    | (have hY := PyProof.Rows.CellsAre.one Y'; refine ex_elim hY ?_; clear hY; intro o' hE'; obtain ⟨hE', d1'⟩ := hE'; subst hE'; clear Y')
    | (have hY := PyProof.Rows.CellsAre.two Y'; refine ex_elim hY ?_; clear hY; intro o' hY; refine ex_elim hY ?_; clear hY; intro o2' hY; obtain ⟨hE', d1', d2'⟩ := hY; subst hE'; clear Y')
    | (have hY := PyProof.Rows.CellsAre.three Y'; refine ex_elim hY ?_; clear hY; intro o' hY; refine ex_elim hY ?_; clear hY; intro o2' hY; refine ex_elim hY ?_; clear hY; intro o3' hY; obtain ⟨hE', d1', d2', d3'⟩ := hY; subst hE'; clear Y')
  k_with "EPSENT" => skip
  revert B F X N T hk hdp hun hl hret
  revert prog w loose mean mg mb dp un gd cn cs a ccd cl outer A₀ base h₀ L m s Q E news l n w0 w1 w2 w3 w4 t0 t1 t2 t3 t4
  refine no_implicit_lambda% (all_eps24 (i := by k_extra "NE9") ?_); generalize pj0 _ = prog, pj1 _ = w, pj2 _ = loose, pj3 _ = mean, pj4 _ = mg, pj5 _ = mb, pj6 _ = dp, pj7 _ = un, pj8 _ = gd, pj9 _ = cn, pj10 _ = cs, pj11 _ = a, pj12 _ = ccd, pj13 _ = cl, pj14 _ = outer, pj15 _ = A₀, pj16 _ = base, pj17 _ = h₀, pj18 _ = L, pj19 _ = m, pj20 _ = s, pj21 _ = Q, pj22 _ = E, pj23 _ = news; refine no_implicit_lambda% (all_eps12 (i := by k_extra "NE9") ?_); generalize pj0 _ = l, pj1 _ = n, pj2 _ = w0, pj3 _ = w1, pj4 _ = w2, pj5 _ = w3, pj6 _ = w4, pj7 _ = t0, pj8 _ = t1, pj9 _ = t2, pj10 _ = t3, pj11 _ = t4
  intros B F X N T hk hdp hun hl hret
  (k_with "exec While Compare cons nil" => ((rename Fr _ _ _ _ => lF'); (rename News _ _ _ _ => lN'); (rename All2 _ _ _ => lE'); (with_unfolding_all refine' len_while false lF' lN' ?h1 ?h2 lE' ?hl ?hll ?hi ?hD ?hne ?hDl ?hg ?h5 ?he5 ?hpc ?htk ?turn ?done ?e1 ?e2 ?hpe); (case h1 => exact rfl); (case h2 => exact rfl); (case hl => k_mem); (case hll => k_mem); (case hi => exact .cons _ _ (.cons _ _ (.cons _ _ (.cons _ _ (.cons _ _ .nil))))); (case hD => walk_at "SUBL"); (case hne => k_ne); (case hDl => walk_at "NEALL"); (case hg => walk_at "GOODES"); (case h5 => exact rfl); (case he5 => (simp only [insE_length, List.length_nil]; omega)); (case hpc => (simp only [plCount_ins, plCount_nil, List.length_cons, List.length_nil]; omega)); (case htk => exact tok_zeros (by walk_at "TOKZ")); (case e1 => exact rfl); (case e2 => exact rfl); (case hpe => passes_own); (case turn => (clear lF' lN' lE'; intro l a0 b0 a1 b1 y0 y1 u0 u1 k0 k1 c0 c1 n n2 p0 p1 vs lv q0 q1 ls es D u h tk m0 m1 m2 m3 m4 m5 hEs hLv hT hne hDl hg hq hpq h5 h3 hvl hcl hpl hpc ht FF NN; exact turnB (b := false) rfl rfl (by assumption) (by assumption) (by assumption) hdp hun rfl l a0 b0 a1 b1 y0 y1 u0 u1 k0 k1 c0 c1 n n2 p0 p1 vs lv q0 q1 ls es D u h tk m0 m1 m2 m3 m4 m5 hEs hLv hT hne hDl hg hq hpq h5 h3 hvl hcl hpl hpc ht FF NN rfl (by passes_own))); (case' done => (clear lF' lN' lE'; (repeat (rename All2 _ _ _ => hz9; clear hz9)); (repeat (rename (@LT.lt Nat _ _ _ ∧ _) => hz9; clear hz9)); intro l n n2 vs lv ls D u h tk hv hLv hT hls FF NN; (try k_fold)))))
  walk_at "ENTERS"
  have hw9 := news_isList (by assumption) hl
  k_steps
  (rename News _ _ _ _ => kN9)
  intro NR9
  have e9 : lens false [w0, w1, w2, w3, w4] = ls := by rw [← hls]; rfl
  exact hret _ _ _ _ _ (by assumption) (news_cons (fun p hp => by rw [List.mem_singleton.mp hp]; exact kN9 _ (.tail _ (.head _))) NR9) (fun p hp => news_apart NN (by assumption) p hp _ (.tail _ (.head _))) (by rw [e9]; exact hLv) ⟨_, hT⟩

end
section
theorem words_cells : True := by
  k_with_none
  (k_with "CJ" => (with_reducible first | assumption | exact cj0 ‹_› | exact cj1 ‹_› | exact cl1 ‹_› | exact cj2 ‹_› | exact cl2 ‹_› | exact cj3 ‹_› | exact cl3 ‹_› | exact cj4 ‹_› | exact cl4 ‹_› | exact cj5 ‹_› | exact cl5 ‹_› | exact cj6 ‹_› | exact cl6 ‹_› | exact cj7 ‹_› | exact cl7 ‹_› | exact cj8 ‹_› | exact cl8 ‹_› | exact cj9 ‹_› | exact cl9 ‹_› | exact cj10 ‹_› | exact cl10 ‹_› | exact cj11 ‹_› | exact cl11 ‹_› | exact cj12 ‹_› | exact cl12 ‹_›))
  (k_with "k_ne" => (((refine neN ?_); (try dsimp only); first | exact Nat.ne_of_gt (by k_extra "CJ") | exact Nat.ne_of_lt (by k_extra "CJ") | k_extra "CJ" | exact Ne.symm (by k_extra "CJ"))))
  (k_with "ktr_room" => (first | exact rm0 ‹_› | exact rm1 ‹_› rfl | exact rm2 ‹_› rfl | exact rm3 ‹_› rfl))
  (k_with "ktr_units" => (first | exact rm0 ‹_› | exact rm1 ‹_› rfl | exact rm2 ‹_› rfl | exact rm3 ‹_› rfl))
  (k_with "k_mem" => (first | exact List.Mem.head _ | (refine' List.Mem.tail _ ?_; k_mem) | (show (_ : Addr × Obj) ∈ (_ : List (Addr × Obj)); with_reducible assumption)))
  (k_with "BINDS" => (first | exact BindsTo.of_eq rfl | exact binds_K (by k_in) rfl (by k_is) rfl rfl rfl | (refine' kp_binds ?zzkx ?zzke; (case zzkx => k_in); (case zzke => exact fun _ => rfl))))
  (k_with "ENTER" => ((refine wpAny_call ?_; first | k_dflt (refine' code_def ?zzk1 ?zzk2 ?zzk3 ?zzk4 ?zzk5 ?zzkA ?zzkF ?zzkK ?zzk6 ?zzk7 ?zzk8 ?zzk9 ?zzkB ?_ ?zzc2 ?zzc3 ?zzc4 ?zzc5; (case zzkA => exact rfl); (case zzkF => exact rfl); (case zzkK => assumption); (case zzk1 => k_asm); (case zzk2 => k_asm); (case zzk3 => k_asm); (case zzk4 => k_asm); (case zzk5 => k_asm); (case zzk6 => k_is); (case zzk7 => k_is); (case zzk8 => ktr_room); (case zzk9 => walk_at "BINDS"); (case zzc5 => decide); (case zzkB => exact locs rfl); (case zzc2 => exact rfl); (case zzc3 => exact rfl); (case zzc4 => exact rfl); k_whole; (first | (k_extra "EPSENT"; refine no_implicit_lambda% (all_eps3 (i := by k_extra "NE9") ?_); generalize pj0 _ = g', pj1 _ = L', pj2 _ = h'; intro FG' F' N' B' X' T') | intro g' L' h' FG' F' N' B' X' T'); (try dsimp only); (try k_lift B'); (try k_fold)) | k_dflt (refine' code_defC ?zzk1 ?zzk2 ?zzk3 ?zzk4 ?zzk5 ?zzkA ?zzkF ?zzkK ?zzk6 ?zzk7 ?zzk8 ?zzk9 ?zzkB ?zzkD ?_ ?zzc2 ?zzc3 ?zzc4; (case zzkA => exact rfl); (case zzkF => exact rfl); (case zzkK => assumption); (case zzk1 => k_asm); (case zzk2 => k_asm); (case zzk3 => k_asm); (case zzk4 => k_asm); (case zzk5 => k_asm); (case zzk6 => k_is); (case zzk7 => k_is); (case zzk8 => ktr_room); (case zzk9 => walk_at "BINDS"); (case zzkB => exact rfl); (case zzkD => decide +kernel); (case zzc2 => exact rfl); (case zzc3 => exact rfl); (case zzc4 => exact rfl); k_whole; (first | (k_extra "EPSENT"; refine no_implicit_lambda% (all_eps5 (i := by k_extra "NE9") ?_); generalize pj0 _ = g', pj1 _ = L', pj2 _ = h', pj3 _ = tk', pj4 _ = cells'; intro FG' F' N' Y' B' X' T' l1) | intro g' L' h' tk' cells' FG' F' N' Y' B' X' T' l1); (try k_lt l1); k_cells Y'; (try simp only [List.cons_append, List.nil_append] at N'); (try dsimp only); (try k_lift B'); (try k_fold)))))
  (k_with "callWith ref" => ((k_here; k_dflt (first | (refine' callWith_K ?zzk1 ?zzk2 ?_; (case zzk1 => k_asm); (case zzk2 => k_is); k_whole) | (refine' callWith_KW ?zzk1 ?zzk2 ?zzk3 ?_; (case zzk1 => k_asm); (case zzk2 => k_is); (case zzk3 => exact rfl); k_whole)))))
  (k_with "call builtin:len" => ((k_here; (with_reducible show wpAny _ _ (call (Value.builtin "len") [Value.ref _]) _ _ _); k_dflt (refine' my_len ?zzk1 ?zzk2 ?zzk3 ?_; (case zzk1 => k_asm); (case zzk2 => k_mem); (case zzk3 => first | assumption | omega); k_whole))))
  (k_with "callWith ref" => ((k_here; k_dflt (refine' callWith_Fn1 ?zzkf ?_; (case zzkf => with_reducible assumption); k_whole))))
  (k_with "And" => (((with_reducible show IsFn _ _ ∧ _); refine ⟨KeyFn.get (by with_reducible assumption) (by k_in) (by k_asm), ?_⟩; try dsimp only [List.nil_append, List.cons_append])))
  exact True.intro
theorem c_cells {prog : Program} {w : World} {loose : List Str} {mean : ExcName → Option Value} {mg mb : Str → Option Value}
    {dp un : Nat} {gd : Option (List Code)} {cn : Str} {cs : Scope} {a : Addr} {ccd : Value} {cl : List (Str × Addr)} {outer : List Env} {A₀ : Around} {base h₀ : Heap} {L : Addr} {m : Str → Option Value} {s : Shared} {Q E : Value → Shared → Prop} {news : List (Addr × Obj)}
    {l : Addr} {vs : List Value} {ns : List Int}
    (B : Below A₀ base outer h₀) (F : Fr h₀ L s.heap m) (X : (hd.heap_39 w.params).In h₀) (N : News h₀ L s.heap news) (T : Top topProg loose mean mg mb h₀) (hk : cs.kind = .function)
    (hdp : dp + 10 < recursionLimit) (hun : un + 300 < cLine) (hl : base.IsList l vs.toArray) (hi : IntsAre vs ns) (hn : ns.length < 64)
    (hret : ∀ r vs' cs' n h' tk', Fr h₀ L h' m → News h₀ L h' ((r, listOf (List.toArray vs') n) :: news) → (∀ p ∈ news, p.1 < r) → IntsAre vs' cs' → cs'.length = 7 → Q (.ref r) { s with heap := h', toks := tk' }) :
    wpAny (model prog w) (ktrTop dp un gd cn cs L a ccd cl outer) (call (.ref 137) [.ref l]) Q E s := by
  (k_with "pyIter ref" => k_state (fun pre cells => cells.length = 7) "cells")
  walk_at "ENTER"
  k_steps
  exact hret _ _ _ _ _ _ (by assumption) (by assumption) (by assumption) (by assumption) (by assumption)

end
section
theorem words_cheapest : True := by
  k_with_none
  (k_with "CJ" => (with_reducible first | assumption | exact cj0 ‹_› | exact cj1 ‹_› | exact cl1 ‹_› | exact cj2 ‹_› | exact cl2 ‹_› | exact cj3 ‹_› | exact cl3 ‹_› | exact cj4 ‹_› | exact cl4 ‹_› | exact cj5 ‹_› | exact cl5 ‹_› | exact cj6 ‹_› | exact cl6 ‹_› | exact cj7 ‹_› | exact cl7 ‹_› | exact cj8 ‹_› | exact cl8 ‹_› | exact cj9 ‹_› | exact cl9 ‹_› | exact cj10 ‹_› | exact cl10 ‹_› | exact cj11 ‹_› | exact cl11 ‹_› | exact cj12 ‹_› | exact cl12 ‹_›))
  (k_with "k_ne" => (((refine neN ?_); (try dsimp only); first | exact Nat.ne_of_gt (by k_extra "CJ") | exact Nat.ne_of_lt (by k_extra "CJ") | k_extra "CJ" | exact Ne.symm (by k_extra "CJ"))))
  (k_with "ktr_room" => (first | exact rm0 ‹_› | exact rm1 ‹_› rfl | exact rm2 ‹_› rfl | exact rm3 ‹_› rfl))
  (k_with "ktr_units" => (first | exact rm0 ‹_› | exact rm1 ‹_› rfl | exact rm2 ‹_› rfl | exact rm3 ‹_› rfl))
  (k_with "k_mem" => (first | exact List.Mem.head _ | (refine' List.Mem.tail _ ?_; k_mem) | (show (_ : Addr × Obj) ∈ (_ : List (Addr × Obj)); with_reducible assumption)))
  (k_with "BINDS" => (first | exact BindsTo.of_eq rfl | exact binds_K (by k_in) rfl (by k_is) rfl rfl rfl | (refine' kp_binds ?zzkx ?zzke; (case zzkx => k_in); (case zzke => exact fun _ => rfl))))
  (k_with "callWith ref" => ((k_here; k_dflt (first | (refine' callWith_K ?zzk1 ?zzk2 ?_; (case zzk1 => k_asm); (case zzk2 => k_is); k_whole) | (refine' callWith_KW ?zzk1 ?zzk2 ?zzk3 ?_; (case zzk1 => k_asm); (case zzk2 => k_is); (case zzk3 => exact rfl); k_whole)))))
  (k_with "call builtin:len" => ((k_here; (with_reducible show wpAny _ _ (call (Value.builtin "len") [Value.ref _]) _ _ _); k_dflt (refine' my_len ?zzk1 ?zzk2 ?zzk3 ?_; (case zzk1 => k_asm); (case zzk2 => k_mem); (case zzk3 => first | assumption | omega); k_whole))))
  (k_with "callWith ref" => ((k_here; k_dflt (refine' callWith_Fn1 ?zzkf ?_; (case zzkf => with_reducible assumption); k_whole))))
  (k_with "And" => (((with_reducible show IsFn _ _ ∧ _); refine ⟨KeyFn.get (by with_reducible assumption) (by k_in) (by k_asm), ?_⟩; try dsimp only [List.nil_append, List.cons_append])))
  (k_with "ENTERS" => ((refine wpAny_call ?_; first | k_dflt (refine' code_sub (D := []) ?zzk1 ?zzk2 ?zzk3 ?zzk4 ?zzk5 ?zzkD ?zzkR ?zzkA ?zzkF ?zzkK ?zzk6 ?zzk7 ?zzk8 ?zzk9 ?zzkB ?_ ?zzc2 ?zzc3 ?zzc4 ?zzc5; (case zzkA => exact rfl); (case zzkF => exact rfl); (case zzkK => assumption); (case zzk1 => k_asm); (case zzk2 => k_asm); (case zzk3 => k_asm); (case zzk4 => k_asm); (case zzk5 => k_asm); (case zzkD => exact fun _ hq => nomatch hq); (case zzkR => exact fun _ hq => ⟨hq, List.not_mem_nil⟩); (case zzk6 => k_is); (case zzk7 => k_is); (case zzk8 => ktr_room); (case zzk9 => walk_at "BINDS"); (case zzc5 => decide); (case zzkB => exact locs rfl); (case zzc2 => exact rfl); (case zzc3 => exact rfl); (case zzc4 => exact rfl); k_whole; (first | (k_extra "EPSENT"; refine no_implicit_lambda% (all_eps3 (i := by k_extra "NE9") ?_); generalize pj0 _ = g', pj1 _ = L', pj2 _ = h'; intro FG' F' N' B' X' T' NR' _) | intro g' L' h' FG' F' N' B' X' T' NR' _); (try dsimp only); (try k_lift B'); (try k_fold)) | k_dflt (refine' code_subC (D := []) ?zzk1 ?zzk2 ?zzk3 ?zzk4 ?zzk5 ?zzkD ?zzkR ?zzkA ?zzkF ?zzkK ?zzk6 ?zzk7 ?zzk8 ?zzk9 ?zzkB ?zzkN ?_ ?zzc2 ?zzc3 ?zzc4; (case zzkA => exact rfl); (case zzkF => exact rfl); (case zzkK => assumption); (case zzk1 => k_asm); (case zzk2 => k_asm); (case zzk3 => k_asm); (case zzk4 => k_asm); (case zzk5 => k_asm); (case zzkD => exact fun _ hq => nomatch hq); (case zzkR => exact fun _ hq => ⟨hq, List.not_mem_nil⟩); (case zzk6 => k_is); (case zzk7 => k_is); (case zzk8 => ktr_room); (case zzk9 => walk_at "BINDS"); (case zzkB => exact rfl); (case zzkN => decide +kernel); (case zzc2 => exact rfl); (case zzc3 => exact rfl); (case zzc4 => exact rfl); k_whole; (first | (k_extra "EPSENT"; refine no_implicit_lambda% (all_eps5 (i := by k_extra "NE9") ?_); generalize pj0 _ = g', pj1 _ = L', pj2 _ = h', pj3 _ = tk', pj4 _ = cells'; intro FG' F' N' Y' B' X' T' NR' _ hg9) | intro g' L' h' tk' cells' FG' F' N' Y' B' X' T' NR' _ hg9); k_cells Y'; (try simp only [List.cons_append, List.nil_append, List.append_nil] at N'); (try dsimp only); (try k_lift B'); (try k_fold)))))
  (k_with "CompEnd" => ((k_dflt (refine' compEnd_same ?zzF ?zzN ?zzoff ?zzsrc ?_; (case zzF => k_asm); (case zzN => k_asm); (case zzoff => first | assumption | ((simp only [LCg.Off3, and_true]); first | done | assumption)); (case zzsrc => lcg_src)))))
  exact True.intro
theorem ints_cons {vs : List Value} {ns : List Int} (h : IntsAre vs ns) {n : Nat} (e : ns.length = n + 1) : ∃ a t vs' ns', vs = .int a t :: vs' ∧ ns = a :: ns' ∧ IntsAre vs' ns' ∧ ns'.length = n := by
  cases h with
  | nil => simp at e
  | cons a t r => exact ⟨_, _, _, _, rfl, rfl, r, by simpa using e⟩
theorem ints_nil {vs : List Value} {ns : List Int} (h : IntsAre vs ns) (e : ns.length = 0) : vs = [] ∧ ns = [] := by
  cases h with
  | nil => exact ⟨rfl, rfl⟩
  | cons a t r => simp at e
theorem ints_five {vs : List Value} {ns : List Int} (h : IntsAre vs ns) (e : ns.length = 5) : ∃ a b c d e t0 t1 t2 t3 t4, vs = [.int a t0, .int b t1, .int c t2, .int d t3, .int e t4] ∧ ns = [a, b, c, d, e] := by
  obtain ⟨a, t0, _, _, rfl, rfl, h, e⟩ := ints_cons h e
  obtain ⟨b, t1, _, _, rfl, rfl, h, e⟩ := ints_cons h e
  obtain ⟨c, t2, _, _, rfl, rfl, h, e⟩ := ints_cons h e
  obtain ⟨d, t3, _, _, rfl, rfl, h, e⟩ := ints_cons h e
  obtain ⟨x, t4, _, _, rfl, rfl, h, e⟩ := ints_cons h e
  obtain ⟨rfl, rfl⟩ := ints_nil h e
  exact ⟨_, _, _, _, _, _, _, _, _, _, rfl, rfl⟩
theorem get3 {v0 v1 v2 : Value} {i : Nat} (h : i < 3) : ([v0, v1, v2] : List Value)[((0 : Int) + (i : Int)).toNat]? = some (([v0, v1, v2] : List Value).getD i Value.none) := by
  rw [Int.zero_add, Int.toNat_natCast]
  match i, h with
  | 0, _ => rfl
  | 1, _ => rfl
  | 2, _ => rfl
theorem kind_at {D : List (Addr × Obj)} {r0 r1 r2 : Addr} {v0 v1 v2 : List Value} {c0 c1 c2 : Nat} (m0 : (r0, listOf v0.toArray c0) ∈ D) (m1 : (r1, listOf v1.toArray c1) ∈ D) (m2 : (r2, listOf v2.toArray c2) ∈ D) (i0 : IntsAre v0 [2, 2, 2, 3, 3]) (i1 : IntsAre v1 [1, 3, 3, 3, 3]) (i2 : IntsAre v2 [1, 2, 3, 4, 4])
    {f : Nat} (hf : f < 3) : ∃ fa fv cf, ([.ref r0, .ref r1, .ref r2] : List Value).getD f Value.none = .ref fa ∧ (fa, listOf fv.toArray cf) ∈ D ∧ IntsAre fv (kd f) := by
  match f, hf with
  | 0, _ => exact ⟨_, _, _, rfl, m0, i0⟩
  | 1, _ => exact ⟨_, _, _, rfl, m1, i1⟩
  | 2, _ => exact ⟨_, _, _, rfl, m2, i2⟩
theorem bests_ends {k0 k1 k2 M : Int} (hM : M = k0 ∨ M = k1 ∨ M = k2) : ∃ f z, f < 3 ∧ z < 3 ∧ (bests [k0, k1, k2] M).head? = some f ∧ (bests [k0, k1, k2] M).getLast? = some z ∧ 0 < (bests [k0, k1, k2] M).length ∧ (bests [k0, k1, k2] M).length ≤ 3 := by
  have e : bests [k0, k1, k2] M = (if k0 = M then [0] else []) ++ (if k1 = M then [1] else []) ++ (if k2 = M then [2] else []) := by
    unfold bests
    rw [show List.range 3 = [0, 1, 2] from rfl]
    simp only [List.filter_cons, List.filter_nil, List.getD_cons_zero, List.getD_cons_succ, decide_eq_true_eq]
    by_cases a : k0 = M <;> by_cases b : k1 = M <;> by_cases c : k2 = M <;> simp [a, b, c]
  rw [e]
  by_cases a : k0 = M <;> by_cases b : k1 = M <;> by_cases c : k2 = M <;> simp [a, b, c]
  omega
theorem bests_snoc {cs : List Int} {M : Int} : bests cs M = (List.range 3).filter fun i => decide (cs.getD i 0 = M) := rfl
section
variable {prog : Program} {w : World} {A : Around} {h₀ : Heap} {L : Addr} {m : Str → Option Value} {env : Env} {ct elt : PySem.Expr} {x : Str} {scope : Scope} {cl : List (Str × Addr)} {s : Shared} {S : List (Addr × Obj) → Prop} {Fin : List Value → List (Addr × Obj) → Prop} {news : List (Addr × Obj)}
theorem ct_rest {n : Nat} (c : Nat → Bool) (g : Nat → Value)
    (turn : ∀ i t I oI C oC D m₂ ys h tk (E' : Value → Shared → Prop), i < n → LCg.NsObj oC m₂ → m₂ x = some (.int (0 + (i : Int)) t) → Fr h₀ L h m → News h₀ L h ((I, oI) :: (C, oC) :: (D, LCg.lst ys) :: news) → LCg.Off3 I C D news → ((@Ne Nat I C) ∧ (@Ne Nat I D) ∧ (@Ne Nat C D)) →
      wpAny (model prog w) A (isTrue ct (compEnvC scope cl C env) (eval ct (compEnvC scope cl C env))) (fun ok s' => if ok = true then
        wpAny (model prog w) A (eval elt (compEnvC scope cl C env)) (LCg.CompEnd h₀ L m { s with heap := h, toks := tk } I oI C oC D (LCg.lst ys) S (fun y news' => Sealed (c i = true ∧ y = g i ∧ news' = news))) E' s'
        else LCg.CompEnd h₀ L m { s with heap := h, toks := tk } I oI C oC D (LCg.lst ys) S (fun _ news' => Sealed (c i = false ∧ news' = news)) Value.none s') E' { s with heap := h, toks := tk })
    (fin : Fin (((List.range n).filter c).map g) news) : LCt.CompRestT prog w A h₀ L m env ct elt x scope cl s S (fun i v => ∃ t, v = .int (0 + (i : Int)) t) Fin n 0 [] news := by
  have key : ∀ (j i : Nat), i + j = n → LCt.CompRestT prog w A h₀ L m env ct elt x scope cl s S (fun i v => ∃ t, v = .int (0 + (i : Int)) t) Fin j i (((List.range i).filter c).map g) news := by
    intro j
    induction j with
    | zero =>
      intro i hi
      have e : i = n := by omega
      subst e
      exact LCt.CompRestT.zero fin
    | succ j ih =>
      intro i hi
      refine LCt.CompRestT.succ ?_
      rintro v I oI C oC D m₂ h tk E' ⟨t, rfl⟩ hC hx F N off ne
      refine wpAny_mono (turn i t I oI C oC D m₂ _ h tk E' (by omega) hC hx F N off ne) (fun ok s₂ hq => ?_) fun _ _ e => e
      by_cases hok : ok = true
      · rw [if_pos hok] at hq ⊢
        refine wpAny_mono hq (fun y s₃ hq => ?_) fun _ _ e => e
        obtain ⟨h', tk', nw, e, F', N', off', hS, ⟨hc, hy, hn⟩⟩ := hq
        rw [hn] at N' off' hS
        refine ⟨h', tk', news, e, F', N', off', hS, ?_⟩
        have e2 : (List.filter c (List.range i)).map g ++ [y] = (List.filter c (List.range (i + 1))).map g := by
          rw [List.range_succ, List.filter_append, List.map_append, List.filter_cons, if_pos hc, hy]
          rfl
        dsimp only
        rw [e2]
        exact ih (i + 1) (by omega)
      · rw [if_neg hok] at hq ⊢
        obtain ⟨h', tk', nw, e, F', N', off', hS, ⟨hc, hn⟩⟩ := hq
        rw [hn] at N' off' hS
        refine ⟨h', tk', news, e, F', N', off', hS, ?_⟩
        have e2 : (List.filter c (List.range i)).map g = (List.filter c (List.range (i + 1))).map g := by
          rw [List.range_succ, List.filter_append, List.map_append, List.filter_cons, if_neg (by rw [hc]; decide)]
          simp
        dsimp only
        rw [e2]
        exact ih (i + 1) (by omega)
  have := key n 0 (by omega)
  simpa using this
theorem ct_kinds {M k0 k1 k2 : Int} {u0 u1 u2 : Tok} {r0 r1 r2 : Addr} {cl' kl' : Addr} {cc ck : Nat} {v0 v1 v2 : List Value} {c0 c1 c2 : Nat} (hM : M = k0 ∨ M = k1 ∨ M = k2) (_hc : (cl', listOf (List.toArray [.int k0 u0, .int k1 u1, .int k2 u2]) cc) ∈ news) (_hk : (kl', listOf (List.toArray [.ref r0, .ref r1, .ref r2]) ck) ∈ news)
    (m0 : (r0, listOf v0.toArray c0) ∈ news) (m1 : (r1, listOf v1.toArray c1) ∈ news) (m2 : (r2, listOf v2.toArray c2) ∈ news) (i0 : IntsAre v0 [2, 2, 2, 3, 3]) (i1 : IntsAre v1 [1, 3, 3, 3, 3]) (i2 : IntsAre v2 [1, 2, 3, 4, 4])
    (turn : ∀ (i : Nat) t I oI C oC D m₂ ys h tk (E' : Value → Shared → Prop), i < 3 → IntsAre [.int k0 u0, .int k1 u1, .int k2 u2] [k0, k1, k2] → Sealed (([.ref r0, .ref r1, .ref r2] : List Value)[((0 : Int) + (i : Int)).toNat]? = some (([.ref r0, .ref r1, .ref r2] : List Value).getD i Value.none)) → LCg.NsObj oC m₂ → m₂ x = some (.int (0 + (i : Int)) t) → Fr h₀ L h m → News h₀ L h ((I, oI) :: (C, oC) :: (D, LCg.lst ys) :: news) → LCg.Off3 I C D news → ((@Ne Nat I C) ∧ (@Ne Nat I D) ∧ (@Ne Nat C D)) →
      wpAny (model prog w) A (isTrue ct (compEnvC scope cl C env) (eval ct (compEnvC scope cl C env))) (fun ok s' => if ok = true then
        wpAny (model prog w) A (eval elt (compEnvC scope cl C env)) (LCg.CompEnd h₀ L m { s with heap := h, toks := tk } I oI C oC D (LCg.lst ys) S (fun y news' => Sealed (decide (([k0, k1, k2] : List Int).getD i 0 = M) = true ∧ y = ([.ref r0, .ref r1, .ref r2] : List Value).getD i Value.none ∧ news' = news))) E' s'
        else LCg.CompEnd h₀ L m { s with heap := h, toks := tk } I oI C oC D (LCg.lst ys) S (fun _ news' => Sealed (decide (([k0, k1, k2] : List Int).getD i 0 = M) = false ∧ news' = news)) Value.none s') E' { s with heap := h, toks := tk })
    (fin : ∀ ys fa za fv zv cf cz f z, Sealed (ys[(0 : Int).toNat]? = some (.ref fa)) → Sealed (ys[ys.length - 1]? = some (.ref za)) → 0 < ys.length → ys.length ≤ 3 → (fa, listOf (List.toArray fv) cf) ∈ news → (za, listOf (List.toArray zv) cz) ∈ news → IntsAre fv (kd f) → IntsAre zv (kd z) → Sealed ((bests [k0, k1, k2] M).head? = some f ∧ (bests [k0, k1, k2] M).getLast? = some z) → Fin ys news) :
    LCt.CompRestT prog w A h₀ L m env ct elt x scope cl s S (fun i v => ∃ t, v = .int (0 + (i : Int)) t) Fin 3 0 [] news := by
  refine ct_rest (fun i => decide (([k0, k1, k2] : List Int).getD i 0 = M)) (fun i => ([.ref r0, .ref r1, .ref r2] : List Value).getD i Value.none) (fun i t I oI C oC D m₂ ys h tk E' hi hC hx F N off ne => turn i t I oI C oC D m₂ ys h tk E' hi (.cons _ _ (.cons _ _ (.cons _ _ .nil))) ⟨get3 hi⟩ hC hx F N off ne) ?_
  obtain ⟨f, z, hf, hz, h1, h2, h3, h4⟩ := bests_ends hM
  obtain ⟨fa, fv, cf, e1, e2, e3⟩ := kind_at m0 m1 m2 i0 i1 i2 hf
  obtain ⟨za, zv, cz, g1, g2, g3⟩ := kind_at m0 m1 m2 i0 i1 i2 hz
  rw [← bests_snoc]
  refine fin _ fa za fv zv cf cz f z ⟨?_⟩ ⟨?_⟩ (by rw [List.length_map]; exact h3) (by rw [List.length_map]; exact h4) e2 g2 e3 g3 ⟨h1, h2⟩
  · rw [show (0 : Int).toNat = 0 from rfl, ← List.head?_eq_getElem?, List.head?_map, h1, Option.map_some, e1]
  · rw [← List.getLast?_eq_getElem?, List.getLast?_map, h2, Option.map_some, g1]
end
theorem my_lastV {prog : Program} {w : World} {A : Around} {E : Value → Shared → Prop} {s : Shared} {h₀ : Heap} {L l : Addr} {news : List (Addr × Obj)} {us : List Value} {c : Nat} {value slice : PySem.Expr} {u : Tok} {v : Value} {Q : Value → Shared → Prop} (N : News h₀ L s.heap news) (hm : (l, listOf us.toArray c) ∈ news)
    (hx : Sealed (us[us.length - 1]? = some v)) (h1 : 0 < us.length) (hfit : us.length < 1000) (h : Q v s)
    (hs : subscripted slice false (.ref l) (.int (-1) u) = operate [.ref l, .int (-1) u] (getItem (.ref l) (.int (-1) u)) := by with_unfolding_all rfl) :
    wpAny (model prog w) A (subscriptTail value slice (.ref l) (.int (-1) u)) Q E s := by
  have hl : s.heap.IsList l us.toArray := ⟨_, (N _ hm).1, rfl, c, rfl⟩
  refine tail_any hl.typeIs slot_list_getitem.lookup (wpAny_getItem_list_neg hl (x := v) (by decide) (by rw [List.size_toArray]; omega) (by decide) ?_ h) hs
  rw [List.size_toArray, List.getElem?_toArray, show (-1 + (us.length : Int)).toNat = us.length - 1 by omega]
  exact hx.eq
theorem my_itemS {prog : Program} {w : World} {A : Around} {E : Value → Shared → Prop} {s : Shared} {h₀ : Heap} {L l : Addr} {news : List (Addr × Obj)} {us : List Value} {c : Nat} {value slice : PySem.Expr} {k : Int} {u : Tok} {v : Value} {Q : Value → Shared → Prop} (N : News h₀ L s.heap news) (hm : (l, listOf us.toArray c) ∈ news)
    (hx : Sealed (us[k.toNat]? = some v)) (h0 : 0 ≤ k) (h1 : k < 2 ^ 63) (h : Q v s)
    (hs : subscripted slice false (.ref l) (.int k u) = operate [.ref l, .int k u] (getItem (.ref l) (.int k u)) := by with_unfolding_all rfl) :
    wpAny (model prog w) A (subscriptTail value slice (.ref l) (.int k u)) Q E s := my_itemC N hm h0 h1 hx.eq h hs
theorem words_cheapest_1 : True := by
  (k_with "k_all" => (with_reducible assumption))
  (k_with "binaryOp Mult int int" => ((k_here; (first | (with_reducible refine PyProof.Rows.mul_int (a := 2) ?_ ?zzmm) | (with_reducible refine PyProof.Rows.mul_int (a := 3) ?_ ?zzmm) | (with_reducible refine PyProof.Rows.mul_int (a := 4) ?_ ?zzmm)); (case zzmm => exact IntMulOk.of_left (by decide)))))
  exact True.intro
structure KeepHere (p : Prop) : Prop where
  out : p
theorem words_cheapest_2 : True := by
  (k_with "CompSrcT" => ((k_here; k_dflt (refine LCt.CompSrcT.range (by rfl) (by k_asm) (by k_asm) (by assumption) (by first | decide | rfl) (by first | rfl | decide) (by first | size_fits | exact Nat.le_of_ble_eq_true rfl) ?_; intro g'; lct_lit; refine KeepHere.out ?_))))
  exact True.intro
theorem c_cheapest {prog : Program} {w : World} {loose : List Str} {mean : ExcName → Option Value} {mg mb : Str → Option Value}
    {dp un : Nat} {gd : Option (List Code)} {cn : Str} {cs : Scope} {a : Addr} {ccd : Value} {cl : List (Str × Addr)} {outer : List Env} {A₀ : Around} {base h₀ : Heap} {L : Addr} {m : Str → Option Value} {s : Shared} {Q E : Value → Shared → Prop} {news : List (Addr × Obj)}
    {l : Addr} {n : Nat} {w0 w1 w2 w3 w4 : Int} {t0 t1 t2 t3 t4 : Nat}
    (B : Below A₀ base outer h₀) (F : Fr h₀ L s.heap m) (X : (hd.heap_39 w.params).In h₀) (N : News h₀ L s.heap news) (T : Top topProg loose mean mg mb h₀) (hk : cs.kind = .function)
    (hdp : dp + 10 < recursionLimit) (hun : un + 300 < cLine) (hl : (l, listOf (List.toArray [.int w0 t0, .int w1 t1, .int w2 t2, .int w3 t3, .int w4 t4]) n) ∈ news)
    (hret : ∀ r fa za t fv zv cf cz f z M x0 x1 x2 x3 x4 h' tk', Fr h₀ L h' m → News h₀ L h' ((r, { cls := .type "tuple", data := .seq #[.int M t, .ref fa, .ref za] }) :: (fa, listOf (List.toArray fv) cf) :: (za, listOf (List.toArray zv) cz) :: news) → (∀ p ∈ news, p.1 < r) → (∀ p ∈ news, @Ne Nat p.1 fa) → (∀ p ∈ news, @Ne Nat p.1 za) →
      IntsAre fv (kd f) → IntsAre zv (kd z) → Sealed (([x0, x1, x2, x3, x4] : List Int).Perm [w0, w1, w2, w3, w4] ∧ List.Pairwise (fun a b => a ≤ b) ([x0, x1, x2, x3, x4] : List Int)) → Sealed (M ∈ cost3 x0 x1 x2 x3 x4 ∧ ∀ c ∈ cost3 x0 x1 x2 x3 x4, M ≤ c) → Sealed ((bests (cost3 x0 x1 x2 x3 x4) M).head? = some f ∧ (bests (cost3 x0 x1 x2 x3 x4) M).getLast? = some z) →
      Q (.ref r) { s with heap := h', toks := tk' }) :
    wpAny (model prog w) (ktrTop dp un gd cn cs L a ccd cl outer) (call (.ref 156) [.ref l]) Q E s := by
  k_with "EPSON" => skip
  k_with "NE9" => repeat (with_reducible first | exact neSh | exact neAr | exact neEx | exact neWo | refine neP ?_ ?_ | infer_instance)
  k_with "RangeRest" => first
    | ((with_unfolding_all refine RangeRest.succ ?_); intro t' h' tk' F' N')
    | ((with_unfolding_all refine RangeRest.zero ?_); intro h' tk' F' N')
  k_with "CompRest" => first
    | ((with_unfolding_all refine LCg.CompRest.succ ?_); (first | (k_extra "EPSON"; refine no_implicit_lambda% (all_eps10 (i := by k_extra "NE9") ?_); generalize pj0 _ = v', pj1 _ = I', pj2 _ = oI', pj3 _ = C', pj4 _ = oC', pj5 _ = D', pj6 _ = m', pj7 _ = h', pj8 _ = tk', pj9 _ = E'; intro hv' hC' hx' F' N' off' ne') | intro v' I' oI' C' oC' D' m' h' tk' E' hv' hC' hx' F' N' off' ne'); (first | lcg_open hv' | (refine ex_elim hv' ?_; clear hv'; intro t9' hv9'; subst hv9')); (try simp only [LCg.Off3, and_true] at off'))
    | with_unfolding_all refine LCg.CompRest.zero ?_
  k_with "EPS1" => (refine no_implicit_lambda% (all_eps (i := by k_extra "NE9") ?_); generalize eps _ _ = xE9)
  k_with "EPSCELLS" => first
    | (have hY := PyProof.Rows.CellsAre.one Y'; refine ex_elim hY ?_; clear hY; intro o' hE'; obtain ⟨hE', d1'⟩ := hE'; subst hE'; clear Y')
    | (have hY := PyProof.Rows.CellsAre.two Y'; refine ex_elim hY ?_; clear hY; intro o' hY; refine ex_elim hY ?_; clear hY; intro o2' hY; obtain ⟨hE', d1', d2'⟩ := hY; subst hE'; clear Y')
    | (have hY := PyProof.Rows.CellsAre.three Y'; refine ex_elim hY ?_; clear hY; intro o' hY; refine ex_elim hY ?_; clear hY; intro o2' hY; refine ex_elim hY ?_; clear hY; intro o3' hY; obtain ⟨hE', d1', d2', d3'⟩ := hY; subst hE'; clear Y')
  k_with "EPSENT" => skip
  revert B F X N T hk hdp hun hl hret
  revert prog w loose mean mg mb dp un gd cn cs a ccd cl outer A₀ base h₀ L m s Q E news l n w0 w1 w2 w3 w4 t0 t1 t2 t3 t4
  refine no_implicit_lambda% (all_eps24 (i := by k_extra "NE9") ?_); generalize pj0 _ = prog, pj1 _ = w, pj2 _ = loose, pj3 _ = mean, pj4 _ = mg, pj5 _ = mb, pj6 _ = dp, pj7 _ = un, pj8 _ = gd, pj9 _ = cn, pj10 _ = cs, pj11 _ = a, pj12 _ = ccd, pj13 _ = cl, pj14 _ = outer, pj15 _ = A₀, pj16 _ = base, pj17 _ = h₀, pj18 _ = L, pj19 _ = m, pj20 _ = s, pj21 _ = Q, pj22 _ = E, pj23 _ = news; refine no_implicit_lambda% (all_eps12 (i := by k_extra "NE9") ?_); generalize pj0 _ = l, pj1 _ = n, pj2 _ = w0, pj3 _ = w1, pj4 _ = w2, pj5 _ = w3, pj6 _ = w4, pj7 _ = t0, pj8 _ = t1, pj9 _ = t2, pj10 _ = t3, pj11 _ = t4
  intros B F X N T hk hdp hun hl hret
  (k_with "KeepHere" => (k_dflt (refine KeepHere.mk ?_; (rename _ ∨ _ ∨ _ => hM9); (refine' ct_kinds hM9 ?hc ?hk ?m0 ?m1 ?m2 ?i0 ?i1 ?i2 ?turn ?fin; (case hc => k_mem); (case hk => k_mem); (case m0 => k_mem); (case m1 => k_mem); (case m2 => k_mem); (case i0 => exact .cons _ _ (.cons _ _ (.cons _ _ (.cons _ _ (.cons _ _ (.nil)))))); (case i1 => exact .cons _ _ (.cons _ _ (.cons _ _ (.cons _ _ (.cons _ _ (.nil)))))); (case i2 => exact .cons _ _ (.cons _ _ (.cons _ _ (.cons _ _ (.cons _ _ (.nil)))))); (case' turn => (intro i9 t9 I9 oI9 C9 oC9 D9 m9 ys9 h9 tk9 E9 hi9 hx3 hx9 hC9 hv9 lF9 lN9 off9 ne9; (try simp only [LCg.Off3, and_true] at off9))); (case' fin => (intro ys9 fa9 za9 fv9 zv9 cf9 cz9 f9 z9 q1 q2 q3 q4 q5 q6 q7 q8 q9))))))
  (k_with "subscriptTail Name Name ref int" => (first
    | ((with_reducible show wpAny _ _ (subscriptTail (PySem.Expr.Name (PySem.Str.ofString "costs") _) _ _ _) _ _ _); k_dflt (refine' my_itemI ?N ?kl hx3 ?k1 ?k2 ?k3 ?_; (case N => k_asm); (case kl => k_mem); (case k1 => omega); (case k2 => (show (0 : Int) + (i9 : Int) < 3; omega)); (case k3 => decide)); intro t8)
    | ((with_reducible show wpAny _ _ (subscriptTail (PySem.Expr.Name (PySem.Str.ofString "kinds") _) _ _ _) _ _ _); k_dflt (refine' my_itemS ?N ?kl hx9 ?k1 ?k2 ?_; (case N => k_asm); (case kl => k_mem); (case k1 => omega); (case k2 => omega)))))
  (k_with "subscriptTail Name Constant ref int" => (k_dflt (refine' my_itemS ?N ?kl q1 ?k1 ?k2 ?_; (case N => k_asm); (case kl => k_mem); (case k1 => decide); (case k2 => decide))))
  (k_with "subscriptTail Name UnaryOp ref int" => (k_dflt (refine' my_lastV ?N ?kl q2 ?k1 ?k2 ?_; (case N => k_asm); (case kl => k_mem); (case k1 => omega); (case k2 => omega))))
  walk_at "ENTERS"
  (rename News h₀ L _ news => lN0); (rename Fr _ _ _ _ => lF0)
  have hlt0 : ∀ p ∈ news, p.1 < _ := fun p hp => Nat.lt_of_lt_of_le (Heap.lt_size (lN0 p hp).1) lF0.above
  have hw9 := news_isList (by assumption) hl
  have hi9 : IntsAre [.int w0 t0, .int w1 t1, .int w2 t2, .int w3 t3, .int w4 t4] [w0, w1, w2, w3, w4] := .cons _ _ (.cons _ _ (.cons _ _ (.cons _ _ (.cons _ _ .nil))))
  k_steps
  (rename IntsAre _ _ => hi5)
  refine ex_elim10 (ints_five hi5 (by assumption)) ?_
  (first | (k_extra "EPSON"; refine no_implicit_lambda% (all_eps10 (i := by k_extra "NE9") ?_); generalize pj0 _ = x0, pj1 _ = x1, pj2 _ = x2, pj3 _ = x3, pj4 _ = x4, pj5 _ = u0, pj6 _ = u1, pj7 _ = u2, pj8 _ = u3, pj9 _ = u4; intro e5) | intro x0 x1 x2 x3 x4 u0 u1 u2 u3 u4 e5)
  obtain ⟨rfl, rfl⟩ := e5
  (rename List.Perm _ _ => hp9)
  (rename List.Pairwise _ _ => ho9)
  replace hp9 := Sealed.mk (And.intro hp9 ho9)
  clear ho9
  k_steps
  · (rename News _ _ _ _ => lN8)
    revert lN8
    (rename News _ _ _ _ => lN7)
    intro lN8
    have ap9 := news_apart lN7 (show News h₀ L _ news by assumption)
    (rename _ ≤ _ ∧ _ ≤ _ ∧ _ ≤ _ => hb9)
    (rename _ < _ ∧ _ => hl8)
    intro hN
    refine hret _ fa9 za9 _ fv9 zv9 cf9 cz9 f9 z9 _ x0 x1 x2 x3 x4 _ _ (by assumption) (List.forall_mem_cons.mpr ⟨lN8 _ (.head _), List.forall_mem_cons.mpr ⟨lN8 _ (.tail _ (.tail _ q5)), List.forall_mem_cons.mpr ⟨lN8 _ (.tail _ (.tail _ q6)), hN⟩⟩⟩) ?lt (fun p hp => ap9 p hp (fa9, _) (List.Mem.tail _ (List.Mem.tail _ q5))) (fun p hp => ap9 p hp (za9, _) (List.Mem.tail _ (List.Mem.tail _ q6))) q7 q8 hp9 ⟨?m1, ?m2⟩ q9
    case lt => exact fun p hp => Nat.lt_trans (hlt0 p hp) (Nat.lt_of_succ_lt (by (have hl9 := hl8); repeat (first | exact hl9 | exact hl9.1 | replace hl9 := hl9.2)))
    case m1 => (simp only [cost3, List.mem_cons, List.not_mem_nil, or_false]; exact hM9)
    case m2 => (intro c hc; simp only [cost3, List.mem_cons, List.not_mem_nil, or_false] at hc; rcases hc with rfl | rfl | rfl; exact hb9.1; exact hb9.2.1; exact hb9.2.2)
  · exact ⟨decide_eq_true (by rw [← show ((0 : Int) + (i9 : Int)).toNat = i9 by omega]; assumption), rfl, rfl⟩
  · exact ⟨decide_eq_false (by rw [← show ((0 : Int) + (i9 : Int)).toNat = i9 by omega]; assumption), rfl⟩

end
section
theorem words_due : True := by
  k_with_none
  (k_with "CJ" => (with_reducible first | assumption | exact cj0 ‹_› | exact cj1 ‹_› | exact cl1 ‹_› | exact cj2 ‹_› | exact cl2 ‹_› | exact cj3 ‹_› | exact cl3 ‹_› | exact cj4 ‹_› | exact cl4 ‹_› | exact cj5 ‹_› | exact cl5 ‹_› | exact cj6 ‹_› | exact cl6 ‹_› | exact cj7 ‹_› | exact cl7 ‹_› | exact cj8 ‹_› | exact cl8 ‹_› | exact cj9 ‹_› | exact cl9 ‹_› | exact cj10 ‹_› | exact cl10 ‹_› | exact cj11 ‹_› | exact cl11 ‹_› | exact cj12 ‹_› | exact cl12 ‹_›))
  (k_with "k_ne" => (((refine neN ?_); (try dsimp only); first | exact Nat.ne_of_gt (by k_extra "CJ") | exact Nat.ne_of_lt (by k_extra "CJ") | k_extra "CJ" | exact Ne.symm (by k_extra "CJ"))))
  (k_with "ktr_room" => (first | exact rm0 ‹_› | exact rm1 ‹_› rfl | exact rm2 ‹_› rfl | exact rm3 ‹_› rfl))
  (k_with "ktr_units" => (first | exact rm0 ‹_› | exact rm1 ‹_› rfl | exact rm2 ‹_› rfl | exact rm3 ‹_› rfl))
  (k_with "k_mem" => (first | exact List.Mem.head _ | (refine' List.Mem.tail _ ?_; k_mem) | (show (_ : Addr × Obj) ∈ (_ : List (Addr × Obj)); with_reducible assumption)))
  (k_with "BINDS" => (first | exact BindsTo.of_eq rfl | exact binds_K (by k_in) rfl (by k_is) rfl rfl rfl | (refine' kp_binds ?zzkx ?zzke; (case zzkx => k_in); (case zzke => exact fun _ => rfl))))
  (k_with "callWith ref" => ((k_here; k_dflt (first | (refine' callWith_K ?zzk1 ?zzk2 ?_; (case zzk1 => k_asm); (case zzk2 => k_is); k_whole) | (refine' callWith_KW ?zzk1 ?zzk2 ?zzk3 ?_; (case zzk1 => k_asm); (case zzk2 => k_is); (case zzk3 => exact rfl); k_whole)))))
  (k_with "call builtin:len" => ((k_here; (with_reducible show wpAny _ _ (call (Value.builtin "len") [Value.ref _]) _ _ _); k_dflt (refine' my_len ?zzk1 ?zzk2 ?zzk3 ?_; (case zzk1 => k_asm); (case zzk2 => k_mem); (case zzk3 => first | assumption | omega); k_whole))))
  (k_with "callWith ref" => ((k_here; k_dflt (refine' callWith_Fn1 ?zzkf ?_; (case zzkf => with_reducible assumption); k_whole))))
  (k_with "And" => (((with_reducible show IsFn _ _ ∧ _); refine ⟨KeyFn.get (by with_reducible assumption) (by k_in) (by k_asm), ?_⟩; try dsimp only [List.nil_append, List.cons_append])))
  (k_with "SAME" => (first | exact Same.refl _ _ | (intros z h9; (simp only [List.contains_cons, List.contains_nil, Bool.or_false, Bool.or_eq_false_iff, beq_eq_false_iff_ne, ne_eq] at h9); simp [h9])))
  (k_with "SUBS" => (first | exact List.forall_mem_nil _ | (refine List.forall_mem_cons.mpr ⟨by k_mem, ?_⟩; walk_at "SUBS")))
  (k_with "ENTERC" => ((refine wpAny_call ?_; k_dflt (refine' code_subC (rest := []) ?zzk1 ?zzk2 ?zzk3 ?zzk4 ?zzk5 ?zzkD ?zzkR ?zzkA ?zzkF ?zzkK ?zzk6 ?zzk7 ?zzk8 ?zzk9 ?zzkB ?zzkN ?_ ?zzc2 ?zzc3 ?zzc4; (case zzkA => exact rfl); (case zzkF => exact rfl); (case zzkK => assumption); (case zzk1 => k_asm); (case zzk2 => k_asm); (case zzk3 => k_asm); (case zzk4 => k_asm); (case zzk5 => k_asm); (case zzkD => exact fun _ hq => hq); (case zzkR => exact fun _ hq => nomatch hq); (case zzk6 => k_is); (case zzk7 => k_is); (case zzk8 => ktr_room); (case zzk9 => walk_at "BINDS"); (case zzkB => exact rfl); (case zzkN => decide +kernel); (case zzc2 => exact rfl); (case zzc3 => exact rfl); (case zzc4 => exact rfl); k_whole; (first | (k_extra "EPSENT"; refine no_implicit_lambda% (all_eps5 (i := by k_extra "NE9") ?_); generalize pj0 _ = g', pj1 _ = L', pj2 _ = h', pj3 _ = tk', pj4 _ = cells'; intro FG' F' N' Y' B' X' T' _ _ hg9) | intro g' L' h' tk' cells' FG' F' N' Y' B' X' T' _ _ hg9); k_cells Y'; (try simp only [List.cons_append, List.nil_append, List.append_nil] at N'); (try ((rename CodeHd _ _ _ => hC8); (have hC9 := hC8.keeps FG'.keep))); (try dsimp only); (try k_lift B'); (try k_fold)))))
  (k_with "CompEnd" => ((k_dflt (refine' compEnd_same ?zzF ?zzN ?zzoff ?zzsrc ?_; (case zzF => k_asm); (case zzN => k_asm); (case zzoff => first | assumption | ((simp only [LCg.Off3, and_true]); first | done | assumption)); (case zzsrc => lcg_src)))))
  exact True.intro
abbrev dS : List Str := ["length", "place", "word", "size"]
abbrev eS : List Str := ["place", "number"]
theorem frame_d {m₀ m' : Str → Option Value} {v1 v2 : Value} (h : Same dS m₀ m') (h1 : m' "word" = some v1) (h2 : m' "size" = some v2) :
    m' = fun y : Str => if y = "word" then some v1 else if y = "size" then some v2 else if dS.contains y then m' y else m₀ y := by
  funext y
  by_cases e1 : y = "word"
  · rw [if_pos e1, e1, h1]
  · rw [if_neg e1]
    by_cases e2 : y = "size"
    · rw [if_pos e2, e2, h2]
    · rw [if_neg e2]
      cases e : dS.contains y with
      | true => simp
      | false => simp [h y e]
theorem frame_e {m₀ m' : Str → Option Value} {v1 : Value} (h : Same eS m₀ m') (h1 : m' "number" = some v1) : m' = fun y : Str => if y = "number" then some v1 else if eS.contains y then m' y else m₀ y := by
  funext y
  by_cases e1 : y = "number"
  · rw [if_pos e1, e1, h1]
  · rw [if_neg e1]
    cases e : eS.contains y with
    | true => simp
    | false => simp [h y e]
theorem updF_keep {d : Addr} {o : Obj} {l : List (Addr × Obj)} {g : Obj → List (Addr × Obj)} (U : UpdF d o l g) {p : Addr × Obj} (hp : p ∈ l) (hd : p.1 ≠ d) (o' : Obj) : p ∈ g o' := by
  induction U with
  | head h =>
    rcases List.mem_cons.mp hp with rfl | hp
    · exact absurd rfl hd
    · exact .tail _ hp
  | tail h _ ih =>
    rcases List.mem_cons.mp hp with rfl | hp
    · exact .head _
    · exact .tail _ (ih hp)
theorem sort5 {prog : Program} {w : World} {A : Around} {E : Value → Shared → Prop} {s : Shared} {h₀ : Heap} {L l : Addr} {m : Str → Option Value} {news : List (Addr × Obj)} {T0 T1 T2 T3 T4 : Addr} {x0 y0 x1 y1 x2 y2 x3 y3 x4 y4 : Tok} {c0 c1 c2 c3 c4 : Nat} {ls os : List Int} {c : Nat} {Q : Value → Shared → Prop}
    (F : Fr h₀ L s.heap m) (N : News h₀ L s.heap news) (hm : (l, listOf (List.toArray [Value.ref T0, Value.ref T1, Value.ref T2, Value.ref T3, Value.ref T4]) c) ∈ news) (b0 : (T0, tupOf [.int (ls.getD 0 0) x0, .int 0 y0] c0) ∈ news) (b1 : (T1, tupOf [.int (ls.getD 1 0) x1, .int 1 y1] c1) ∈ news) (b2 : (T2, tupOf [.int (ls.getD 2 0) x2, .int 2 y2] c2) ∈ news) (b3 : (T3, tupOf [.int (ls.getD 3 0) x3, .int 3 y3] c3) ∈ news) (b4 : (T4, tupOf [.int (ls.getD 4 0) x4, .int 4 y4] c4) ∈ news) (hS : SortOk ls os)
    (h : ∀ r c h', Fr h₀ L h' m → News h₀ L h' ((r, listOf (List.toArray (os.map fun o => ([Value.ref T0, Value.ref T1, Value.ref T2, Value.ref T3, Value.ref T4] : List Value).getD o.toNat Value.none)) c) :: news) → (∀ q ∈ news, q.1 < r) → Q (.ref r) { s with heap := h' }) :
    wpAny (model prog w) A (call (.builtin "sorted") [.ref l]) Q E s := by
  have hp : PairsIn [(T0, tupOf [.int (ls.getD 0 0) x0, .int 0 y0] c0), (T1, tupOf [.int (ls.getD 1 0) x1, .int 1 y1] c1), (T2, tupOf [.int (ls.getD 2 0) x2, .int 2 y2] c2), (T3, tupOf [.int (ls.getD 3 0) x3, .int 3 y3] c3), (T4, tupOf [.int (ls.getD 4 0) x4, .int 4 y4] c4)] [Value.ref T0, Value.ref T1, Value.ref T2, Value.ref T3, Value.ref T4] (prs ls) := (.cons (.mk (.head _)) (.cons (.mk (.tail _ (.head _))) (.cons (.mk (.tail _ (.tail _ (.head _)))) (.cons (.mk (.tail _ (.tail _ (.tail _ (.head _))))) (.cons (.mk (.tail _ (.tail _ (.tail _ (.tail _ (.head _)))))) .nil)))))
  have hD : ∀ p ∈ ([(T0, tupOf [.int (ls.getD 0 0) x0, .int 0 y0] c0), (T1, tupOf [.int (ls.getD 1 0) x1, .int 1 y1] c1), (T2, tupOf [.int (ls.getD 2 0) x2, .int 2 y2] c2), (T3, tupOf [.int (ls.getD 3 0) x3, .int 3 y3] c3), (T4, tupOf [.int (ls.getD 4 0) x4, .int 4 y4] c4)] : List (Addr × Obj)), p ∈ news := (List.forall_mem_cons.mpr ⟨b0, (List.forall_mem_cons.mpr ⟨b1, (List.forall_mem_cons.mpr ⟨b2, (List.forall_mem_cons.mpr ⟨b3, (List.forall_mem_cons.mpr ⟨b4, List.forall_mem_nil _⟩)⟩)⟩)⟩)⟩)
  exact my_sortPairs F N hm hp hD hS h
theorem due1_at {prog : Program} {w : World} {A : Around} {E : Value → Shared → Prop} {s : Shared} {env : Env} {h₀ : Heap} {target : PySem.Expr} {body orelse : List Stmt} {Q : Flow → Shared → Prop} {r wl : Addr} {T0 T1 T2 T3 T4 : Addr} {x0 y0 x1 y1 x2 y2 x3 y3 x4 y4 : Tok} {c0 c1 c2 c3 c4 : Nat} {wv0 : List Value} {ls os sts : List Int} {c k0 : Nat} {m : Str → Option Value} {news : List (Addr × Obj)} {g : Obj → List (Addr × Obj)} {t1 t2 : Tok}
    (hh : A.handled = none) (F : Fr h₀ env.locals s.heap m) (N : News h₀ env.locals s.heap news) (hwm : m "words" = some (.ref wl)) (hr : (r, listOf (List.toArray (os.map fun o => ([Value.ref T0, Value.ref T1, Value.ref T2, Value.ref T3, Value.ref T4] : List Value).getD o.toNat Value.none)) c) ∈ news) (U : UpdF wl (listOf wv0.toArray k0) news g) (hw0 : IntsAre wv0 [0, 0, 0, 0, 0])
    (b0 : (T0, tupOf [.int (ls.getD 0 0) x0, .int 0 y0] c0) ∈ news) (b1 : (T1, tupOf [.int (ls.getD 1 0) x1, .int 1 y1] c1) ∈ news) (b2 : (T2, tupOf [.int (ls.getD 2 0) x2, .int 2 y2] c2) ∈ news) (b3 : (T3, tupOf [.int (ls.getD 3 0) x3, .int 3 y3] c3) ∈ news) (b4 : (T4, tupOf [.int (ls.getD 4 0) x4, .int 4 y4] c4) ∈ news) (n0 : T0 ≠ wl) (n1 : T1 ≠ wl) (n2 : T2 ≠ wl) (n3 : T3 ≠ wl) (n4 : T4 ≠ wl) (hK : DueOk ls os sts) (hw : m "word" = some (.int 0 t1)) (hs : m "size" = some (.int 0 t2))
    (step : ∀ (i : Nat) (o : Int) (a : Addr) (t u tw ts : Tok) (ct : Nat) (I : Addr) (oI : Obj) (z : Str → Option Value) (h₁ : Heap) (tk₁ k : Nat) (wv : List Value), os[i]? = some o → (a, tupOf [.int (ls.getD o.toNat 0) t, .int o u] ct) ∈ g (listOf wv.toArray k) → IntsAre wv (dues ls os i).1 → (∀ p ∈ news, p.1 < I) → (∀ o', ∀ p ∈ g o', p.1 ∉ [I]) →
      Fr h₀ env.locals h₁ (fun y => if y = "word" then some (.int (dues ls os i).2.1 tw) else if y = "size" then some (.int (dues ls os i).2.2 ts) else if dS.contains y then z y else m y) → News h₀ env.locals h₁ ((I, oI) :: g (listOf wv.toArray k)) →
      wpAny (model prog w) A (assign target env (.ref a)) (fun _ s₃ => wpAny (model prog w) A (execs body env) (StepT h₀ env.locals [I] [(I, oI)] [(r, listOf (List.toArray (os.map fun o => ([Value.ref T0, Value.ref T1, Value.ref T2, Value.ref T3, Value.ref T4] : List Value).getD o.toNat Value.none)) c)] (fun _ m' nl => Same dS m m' ∧ ∃ wv' k' tw' ts', nl = g (listOf wv'.toArray k') ∧ IntsAre wv' (dueF ls (dues ls os i) o).1 ∧ m' "word" = some (.int (dueF ls (dues ls os i) o).2.1 tw') ∧ m' "size" = some (.int (dueF ls (dues ls os i) o).2.2 ts')) { s with heap := h₁, toks := tk₁ } Q) E s₃) E { s with heap := h₁, toks := tk₁ })
    (fin : ∀ (h' : Heap) (tk k : Nat) (z : Str → Option Value) (wv : List Value), IntsAre wv (dues ls os os.length).1 → Fr h₀ env.locals h' (fun y => if dS.contains y then z y else m y) → News h₀ env.locals h' (g (listOf wv.toArray k)) → wpAny (model prog w) A (execs orelse env) Q E { s with heap := h', toks := tk })
    (hE : PassesOwn (model prog w) A env E := by passes_own) : LoopAt prog w A env target body orelse Q E (.ref r) s := by
  have hp : PairsIn [(T0, tupOf [.int (ls.getD 0 0) x0, .int 0 y0] c0), (T1, tupOf [.int (ls.getD 1 0) x1, .int 1 y1] c1), (T2, tupOf [.int (ls.getD 2 0) x2, .int 2 y2] c2), (T3, tupOf [.int (ls.getD 3 0) x3, .int 3 y3] c3), (T4, tupOf [.int (ls.getD 4 0) x4, .int 4 y4] c4)] [Value.ref T0, Value.ref T1, Value.ref T2, Value.ref T3, Value.ref T4] (prs ls) := (.cons (.mk (.head _)) (.cons (.mk (.tail _ (.head _))) (.cons (.mk (.tail _ (.tail _ (.head _)))) (.cons (.mk (.tail _ (.tail _ (.tail _ (.head _))))) (.cons (.mk (.tail _ (.tail _ (.tail _ (.tail _ (.head _)))))) .nil)))))
  have hD : ∀ p ∈ ([(T0, tupOf [.int (ls.getD 0 0) x0, .int 0 y0] c0), (T1, tupOf [.int (ls.getD 1 0) x1, .int 1 y1] c1), (T2, tupOf [.int (ls.getD 2 0) x2, .int 2 y2] c2), (T3, tupOf [.int (ls.getD 3 0) x3, .int 3 y3] c3), (T4, tupOf [.int (ls.getD 4 0) x4, .int 4 y4] c4)] : List (Addr × Obj)), p ∈ news := (List.forall_mem_cons.mpr ⟨b0, (List.forall_mem_cons.mpr ⟨b1, (List.forall_mem_cons.mpr ⟨b2, (List.forall_mem_cons.mpr ⟨b3, (List.forall_mem_cons.mpr ⟨b4, List.forall_mem_nil _⟩)⟩)⟩)⟩)⟩)
  have hD2 : ∀ p ∈ ([(T0, tupOf [.int (ls.getD 0 0) x0, .int 0 y0] c0), (T1, tupOf [.int (ls.getD 1 0) x1, .int 1 y1] c1), (T2, tupOf [.int (ls.getD 2 0) x2, .int 2 y2] c2), (T3, tupOf [.int (ls.getD 3 0) x3, .int 3 y3] c3), (T4, tupOf [.int (ls.getD 4 0) x4, .int 4 y4] c4)] : List (Addr × Obj)), p.1 ≠ wl := (List.forall_mem_cons.mpr ⟨n0, (List.forall_mem_cons.mpr ⟨n1, (List.forall_mem_cons.mpr ⟨n2, (List.forall_mem_cons.mpr ⟨n3, (List.forall_mem_cons.mpr ⟨n4, List.forall_mem_nil _⟩)⟩)⟩)⟩)⟩)
  refine LoopAt.list (fun i _ m' nl => Same dS m m' ∧ ∃ wv' k' tw' ts', nl = g (listOf (List.toArray wv') k') ∧ IntsAre wv' (dues ls os i).1 ∧ m' "word" = some (.int (dues ls os i).2.1 tw') ∧ m' "size" = some (.int (dues ls os i).2.2 ts')) hh F N hr ⟨Same.refl _ _, wv0, k0, t1, t2, (updF_self U).symm, hw0, hw, hs⟩ ?_ ?_ (fun _ _ _ _ _ h _ => h) hE
  · rintro i v I o m₁ nl h₁ tk₁ hx ⟨hS, wv, k, tw, ts, rfl, x1, e1, e2⟩ _ _ _ hlt F₁ N₁
    rw [List.getElem?_map] at hx
    cases ho : os[i]? with
    | none => rw [ho] at hx; exact nomatch hx
    | some x =>
      rw [ho, Option.map_some, Option.some.injEq] at hx
      subst hx
      have hb := hK.rng x (List.mem_of_getElem? ho)
      obtain ⟨a, t, u, n, ea, ma⟩ := pair_at hp (i := x.toNat) (by omega)
      rw [show ((x.toNat : Nat) : Int) = x by omega] at ma
      rw [ea]
      rw [frame_d hS e1 e2] at F₁
      rw [dues_snoc ho]
      exact step i x a t u tw ts n I o m₁ h₁ tk₁ k wv ho (updF_keep U (hD _ ma) (hD2 _ ma) _) x1 hlt (fun o' p hp q => by obtain ⟨q', hq', e'⟩ := updF_addr U o' p hp; have := hlt q' hq'; rw [e', List.mem_singleton.mp q] at this; exact Nat.lt_irrefl _ this) F₁ N₁
  · rintro h' tk m' nl ⟨hS, wv, k, tw, ts, rfl, x1, e1, e2⟩ _ _ F' N'
    rw [hS.eq] at F'
    rw [List.length_map] at x1
    exact fin h' tk k m' wv x1 F' N'
theorem due2_at {prog : Program} {w : World} {A : Around} {E : Value → Shared → Prop} {s : Shared} {env : Env} {h₀ : Heap} {target : PySem.Expr} {body orelse : List Stmt} {Q : Flow → Shared → Prop} {d : Addr} {ds : List Value} {ls os sts ms : List Int} {n : Nat} {m : Str → Option Value} {news : List (Addr × Obj)} {t0 : Tok}
    (hh : A.handled = none) (F : Fr h₀ env.locals s.heap m) (N : News h₀ env.locals s.heap news) (hd9 : (d, listOf ds.toArray n) ∈ news) (hi : IntsAre ds ms) (hn0 : m "number" = some (.int 0 t0))
    (step : ∀ (i : Nat) (p : Int) (t tn : Tok) (I : Addr) (oI : Obj) (z : Str → Option Value) (h₁ : Heap) (tk₁ : Nat), ms[i]? = some p → (∀ p ∈ news, p.1 < I) →
      Fr h₀ env.locals h₁ (fun y => if y = "number" then some (.int (wr ls os sts (ms.take i)).1 tn) else if eS.contains y then z y else m y) → News h₀ env.locals h₁ ((I, oI) :: news) →
      wpAny (model prog w) A (assign target env (.int p t)) (fun _ s₃ => wpAny (model prog w) A (execs body env) (StepT h₀ env.locals [I] [(I, oI)] [(d, listOf ds.toArray n)] (fun _ m' nl => Same eS m m' ∧ nl = news ∧ ∃ tn, m' "number" = some (.int (wrF ls os sts (wr ls os sts (ms.take i)) p).1 tn)) { s with heap := h₁, toks := tk₁ } Q) E s₃) E { s with heap := h₁, toks := tk₁ })
    (fin : ∀ (h' : Heap) (tk : Nat) (tn : Tok) (z : Str → Option Value),
      Fr h₀ env.locals h' (fun y => if y = "number" then some (.int (wr ls os sts ms).1 tn) else if eS.contains y then z y else m y) → News h₀ env.locals h' news → wpAny (model prog w) A (execs orelse env) Q E { s with heap := h', toks := tk })
    (hE : PassesOwn (model prog w) A env E := by passes_own) : LoopAt prog w A env target body orelse Q E (.ref d) s := by
  refine LoopAt.list (fun i _ m' nl => Same eS m m' ∧ nl = news ∧ ∃ tn, m' "number" = some (.int (wr ls os sts (ms.take i)).1 tn)) hh F N hd9 ⟨Same.refl _ _, rfl, t0, hn0⟩ ?_ ?_ (fun _ _ _ _ _ h _ => h) hE
  · rintro i v I o m₁ nl h₁ tk₁ hx ⟨hS, rfl, tn, e1⟩ hle _ hI hlt F₁ N₁
    obtain ⟨p, t, rfl, hk⟩ := ints_get hi hx
    rw [frame_e hS e1] at F₁
    have et : ms.take (i + 1) = ms.take i ++ [p] := by rw [List.take_add_one, hk]; rfl
    rw [et, wr_snoc]
    exact step i p t tn I o m₁ h₁ tk₁ hk hlt F₁ N₁
  · rintro h' tk m' nl ⟨hS, rfl, tn, e1⟩ _ _ F' N'
    rw [hi.length, List.take_length] at e1
    rw [frame_e hS e1] at F'
    exact fin h' tk tn m' F' N'
theorem compEnd_push {h₀ : Heap} {L I C D T : Addr} {m : Str → Option Value} {s₁ : Shared} {oI oC oD oT : Obj} {S : List (Addr × Obj) → Prop} {rest : Value → List (Addr × Obj) → Prop} {y : Value} {h' : Heap} {tk : Nat} {news' : List (Addr × Obj)}
    (F : Fr h₀ L h' m) (N : News h₀ L h' ((T, oT) :: (I, oI) :: (C, oC) :: (D, oD) :: news')) (o1 : T ≠ I) (o2 : T ≠ C) (o3 : T ≠ D) (off : LCg.Off3 I C D news') (hS : S ((T, oT) :: news')) (r : rest y ((T, oT) :: news')) : LCg.CompEnd h₀ L m s₁ I oI C oC D oD S rest y { s₁ with heap := h', toks := tk } :=
  ⟨h', tk, (T, oT) :: news', rfl, F, news_sub N fun p hp => by
    simp only [List.mem_cons] at hp ⊢
    rcases hp with h | h | h | h | h <;> simp [h], ⟨⟨o1, o2, o3⟩, off⟩, hS, r⟩
theorem mul_small {prog : Program} {w : World} {A : Around} {E : Value → Shared → Prop} {s : Shared} {a b : Int} {t u : Tok} {Q : Value → Shared → Prop} (ha : a.natAbs < 2 ^ 64) (h : Q (.int (a * b) s.toks) { s with toks := s.toks + 1 }) : wpAny (model prog w) A (binaryOp .Mult (.int a t) (.int b u)) Q E s :=
  PyProof.Rows.mul_int h (IntMulOk.of_left (PySem.intBits_le_iff.mpr ha))
theorem LcS_sum {prog : Program} {w : World} {A : Around} {E : Value → Shared → Prop} {s : Shared} {h₀ : Heap} {L l : Addr} {m : Str → Option Value} {news : List (Addr × Obj)} {vs : List Value} {ns : List Int} {Q : Value → Shared → Prop} (F : Fr h₀ L s.heap m) (N : News h₀ L s.heap news) (hh : A.handled = none) (hl : (l, LCg.lst vs) ∈ news) (hi : IntsAre vs ns)
    (h : ∀ h' tk t', Fr h₀ L h' m → News h₀ L h' news → Q (.int ns.sum t') { s with heap := h', toks := tk }) : wpAny (model prog w) A (call (.builtin "sum") [.ref l]) Q E s :=
  sumK hh F N ⟨_, (N _ hl).1, rfl, _, rfl⟩ hi h
theorem words_due_1 : True := by
  (k_with "k_all" => (with_reducible assumption))
  (k_with "SUBL" => ((intros p9 h9; (repeat (first | exact h9 | refine List.Mem.tail _ ?_)))))
  (k_with "exec For Tuple Call cons nil" => ((k_here; k_dflt (refine' For_at ?_); k_whole)))
  (k_with "exec For Name Name cons nil" => ((k_here; k_dflt (refine' For_at ?_); k_whole)))
  (k_with "binaryOp Mult int int" => ((k_here; k_dflt (refine' mul_small ?zzka ?_; (case zzka => assumption)))))
  (k_with "binaryOp Pow int int" => ((k_here; (with_reducible refine pow_int_small ?zzkb1 ?zzkb2 ?zzkb3 ?_); (case zzkb1 => first | assumption | omega); (case zzkb2 => omega); (case zzkb3 => decide))))
  (k_with "CompSrc" => ((k_here; k_dflt (first | (refine LCg.CompSrc.range (by rfl) (by k_asm) (by k_asm) (by assumption) (by first | decide | rfl) (by first | rfl | decide) (by first | size_fits | exact Nat.le_of_ble_eq_true rfl) ?_; intro g'; lcg_lit) | (refine KeepSrc.out ?_)))))
  (k_with "CompEnd" => ((k_dflt (first | (refine' compEnd_push ?zzF ?zzN ?zzo1 ?zzo2 ?zzo3 ?zzoff ?zzsrc ?_; (case zzF => k_asm); (case zzN => k_asm); (case zzo1 => k_ne); (case zzo2 => k_ne); (case zzo3 => k_ne); (case zzoff => first | assumption | ((simp only [LCg.Off3, and_true]); first | done | assumption)); (case zzsrc => lcg_src)) | (refine' compEnd_same ?zzF ?zzN ?zzoff ?zzsrc ?_; (case zzF => k_asm); (case zzN => k_asm); (case zzoff => first | assumption | ((simp only [LCg.Off3, and_true]); first | done | assumption)); (case zzsrc => lcg_src))))))
  exact True.intro
theorem c_due {prog : Program} {w : World} {loose : List Str} {mean : ExcName → Option Value} {mg mb : Str → Option Value}
    {dp un : Nat} {gd : Option (List Code)} {cn : Str} {cs : Scope} {a : Addr} {ccd : Value} {cl : List (Str × Addr)} {outer : List Env} {A₀ : Around} {base h₀ : Heap} {L : Addr} {m : Str → Option Value} {s : Shared} {Q E : Value → Shared → Prop} {news : List (Addr × Obj)}
    {ml l : Addr} {nm n : Nat} {us : List Value} {mv : List Value} {ls os sts ms : List Int}
    (B : Below A₀ base outer h₀) (F : Fr h₀ L s.heap m) (X : (hd.heap_39 w.params).In h₀) (N : News h₀ L s.heap news) (T : Top topProg loose mean mg mb h₀) (hk : cs.kind = .function)
    (hdp : dp + 10 < recursionLimit) (hun : un + 300 < cLine) (hml : (ml, listOf mv.toArray nm) ∈ news) (him : IntsAre mv ms) (hm15 : ms.length < 16) (hmr : ∀ p ∈ ms, 0 ≤ p ∧ p < 5)
    (hl : (l, listOf us.toArray n) ∈ news) (hi : IntsAre us ls) (h5 : ls.length = 5) (hS : SortOk ls os) (hK : DueOk ls os sts) (hW : WordOk ls os sts)
    (hret : ∀ r tn ts h' tk', Fr h₀ L h' m → News h₀ L h' ((r, { cls := .type "tuple", data := .seq #[.int (wr ls os sts ms).1 tn, .int (wr ls os sts ms).2 ts] }) :: news) → (∀ p ∈ news, p.1 < r) → Q (.ref r) { s with heap := h', toks := tk' }) :
    wpAny (model prog w) (ktrTop dp un gd cn cs L a ccd cl outer) (call (.ref 201) [.ref ml, .ref l]) Q E s := by
  k_with "EPSON" => skip
  k_with "NE9" => repeat (with_reducible first | exact neSh | exact neAr | exact neEx | exact neWo | refine neP ?_ ?_ | infer_instance)
  k_with "RangeRest" => first
    | ((with_unfolding_all refine RangeRest.succ ?_); intro t' h' tk' F' N')
    | ((with_unfolding_all refine RangeRest.zero ?_); intro h' tk' F' N')
  k_with "CompRest" => first
    | ((with_unfolding_all refine LCg.CompRest.succ ?_); (first | (k_extra "EPSON"; refine no_implicit_lambda% (all_eps10 (i := by k_extra "NE9") ?_); generalize pj0 _ = v', pj1 _ = I', pj2 _ = oI', pj3 _ = C', pj4 _ = oC', pj5 _ = D', pj6 _ = m', pj7 _ = h', pj8 _ = tk', pj9 _ = E'; intro hv' hC' hx' F' N' off' ne') | intro v' I' oI' C' oC' D' m' h' tk' E' hv' hC' hx' F' N' off' ne'); (first | lcg_open hv' | (refine ex_elim hv' ?_; clear hv'; intro t9' hv9'; subst hv9')); (try simp only [LCg.Off3, and_true] at off'))
    | with_unfolding_all refine LCg.CompRest.zero ?_
  k_with "EPS1" => (refine no_implicit_lambda% (all_eps (i := by k_extra "NE9") ?_); generalize eps _ _ = xE9)
  k_with "EPSCELLS" => first
    | (have hY := PyProof.Rows.CellsAre.one Y'; refine ex_elim hY ?_; clear hY; intro o' hE'; obtain ⟨hE', d1'⟩ := hE'; subst hE'; clear Y')
    | (have hY := PyProof.Rows.CellsAre.two Y'; refine ex_elim hY ?_; clear hY; intro o' hY; refine ex_elim hY ?_; clear hY; intro o2' hY; obtain ⟨hE', d1', d2'⟩ := hY; subst hE'; clear Y')
    | (have hY := PyProof.Rows.CellsAre.three Y'; refine ex_elim hY ?_; clear hY; intro o' hY; refine ex_elim hY ?_; clear hY; intro o2' hY; refine ex_elim hY ?_; clear hY; intro o3' hY; obtain ⟨hE', d1', d2', d3'⟩ := hY; subst hE'; clear Y')
  k_with "EPSENT" => skip
  revert B F X N T hk hdp hun hml him hm15 hmr hl hi h5 hS hK hW hret
  revert prog w loose mean mg mb dp un gd cn cs a ccd cl outer A₀ base h₀ L m s Q E news ml l nm n us mv ls os sts ms
  refine no_implicit_lambda% (all_eps24 (i := by k_extra "NE9") ?_); generalize pj0 _ = prog, pj1 _ = w, pj2 _ = loose, pj3 _ = mean, pj4 _ = mg, pj5 _ = mb, pj6 _ = dp, pj7 _ = un, pj8 _ = gd, pj9 _ = cn, pj10 _ = cs, pj11 _ = a, pj12 _ = ccd, pj13 _ = cl, pj14 _ = outer, pj15 _ = A₀, pj16 _ = base, pj17 _ = h₀, pj18 _ = L, pj19 _ = m, pj20 _ = s, pj21 _ = Q, pj22 _ = E, pj23 _ = news; refine no_implicit_lambda% (all_eps10 (i := by k_extra "NE9") ?_); generalize pj0 _ = ml, pj1 _ = l, pj2 _ = nm, pj3 _ = n, pj4 _ = us, pj5 _ = mv, pj6 _ = ls, pj7 _ = os, pj8 _ = sts, pj9 _ = ms
  intros B F X N T hk hdp hun hml him hm15 hmr hl hi h5 hS hK hW hret
  (k_with "subscriptTail Name Name ref int" => (first
    | ((with_reducible show wpAny _ _ (subscriptTail (PySem.Expr.Name (PySem.Str.ofString "lengths") _) _ _ _) _ _ _); k_dflt (refine' my_itemI ?N ?kl hi ?k1 ?k2 ?k3 ?_; (case N => k_asm); (case kl => k_mem); (case k1 => omega); (case k2 => (rw [h5]; omega)); (case k3 => (rw [h5]; decide))); intro t8)
    | ((with_reducible show wpAny _ _ (subscriptTail (PySem.Expr.Name (PySem.Str.ofString "words") _) _ _ _) _ _ _); (rename IntsAre _ _ => x8); (rename List.length _ = 5 => e8); (k_dflt (refine' my_itemI ?N ?kl x8 ?k1 ?k2 ?k3 ?_; (case N => k_asm); (case kl => k_mem); (case k1 => omega); (case k2 => (rw [dues_len]; omega)); (case k3 => (rw [dues_len]; decide))); intro t8))))
  (k_with "LoopAt" => ((rename Fr _ _ _ _ => lF'); (rename News _ _ _ _ => lN'); (first
    | (k_dflt (refine' due1_at (ls := ls) (os := os) (sts := sts) ?kh lF' lN' ?kz ?kr ?kU ?kw ?b0 ?b1 ?b2 ?b3 ?b4 ?n0 ?n1 ?n2 ?n3 ?n4 hK ?ka ?kb ?step ?fin; (case kh => exact rfl); (case kz => exact rfl); (case kr => k_mem); (case kU => k_updF); (case kw => exact .cons _ _ (.cons _ _ (.cons _ _ (.cons _ _ (.cons _ _ (.nil)))))); (case b0 => k_mem); (case b1 => k_mem); (case b2 => k_mem); (case b3 => k_mem); (case b4 => k_mem); (case n0 => k_ne); (case n1 => k_ne); (case n2 => k_ne); (case n3 => k_ne); (case n4 => k_ne); (case ka => exact rfl); (case kb => exact rfl)); (case' step => (clear lF' lN'; intro i9 o9 a9 t9 u9 tw9 ts9 c9 I9 oI9 z9 h9 tk9 k9 wv9 ho9 ma9 x9 z1 z2 lF9 lN9; (obtain ⟨hm91, hm92⟩ := hK.rng o9 (List.mem_of_getElem? ho9)); (obtain ⟨d1, d2, d3⟩ := hK.ok i9 o9 ho9); (have d4 : (dues ls os i9).1.length = 5 := dues_len ls os i9); (try k_lt z1); (try dsimp only at ma9); (try dsimp only); (try k_fold))); (case' fin => (clear lF' lN'; intro h9 tk9 k9 z9 wv9 x9 lF9 lN9; (have d4 : wv9.length = 5 := by rw [x9.length, dues_len]); (try dsimp only); (try k_fold))))
    | (k_dflt (refine' due2_at (ls := ls) (os := os) (sts := sts) ?khz lF' lN' ?krz him ?kaz ?stepz ?finz; (case khz => exact rfl); (case krz => k_mem); (case kaz => exact rfl)); (case' stepz => (clear lF' lN'; intro i9 p9 t9 tn9 I9 oI9 z9 h9 tk9 hp9 z3 lF9 lN9; (have hr9 := hmr p9 (List.mem_of_getElem? hp9)); (obtain ⟨w0, w1, l0, l1⟩ := hW.ok p9 hr9.1 hr9.2); (have b3 : 0 ≤ ls.getD p9.toNat 0 := by omega); (have b4 := wr_bound hW (List.take i9 ms) (0, 0) 0 (by decide) (by decide) fun p hp => hmr p (List.mem_of_mem_take hp)); (have b5 : ((wr ls os sts (List.take i9 ms)).1).natAbs < 2 ^ 64 := wr_small b4 (by rw [List.length_take]; exact Nat.lt_of_le_of_lt (Nat.min_le_right _ _) hm15)); clear b4; (try dsimp only); (try k_fold))); (case' finz => (clear lF' lN'; intro h9 tk9 tn9 z9 lF9 lN9; (try dsimp only); (try k_fold)))))))
  (k_with "call builtin:sorted" => (k_dflt (refine' sort5 (ls := ls) (os := os) ?F ?N ?kl ?b0 ?b1 ?b2 ?b3 ?b4 hS ?_; (case F => k_asm); (case N => k_asm); (case kl => k_mem); (case b0 => k_mem); (case b1 => k_mem); (case b2 => k_mem); (case b3 => k_mem); (case b4 => k_mem)); intro r8 c8 h8 F8 N8 l8; (try k_lt l8); (try dsimp only); (try k_fold)))
  (k_with "KeepSrc" => (k_dflt (refine' KeepSrc.mk (LCg.CompSrc.ledger ?khS ?kFS ?kNS ?kmS ?kszS ?krestS); (case khS => exact rfl); (case kFS => k_asm); (case kNS => k_asm); (case kmS => k_mem); (case kszS => (rw [List.size_toArray, him.length]; exact Nat.le_of_lt (Nat.lt_of_lt_of_le hm15 (by decide))))); (case' krestS => (intro g9; refine' cr_list him (fun p => ls.getD p.toNat 0) ?turnS ?finS)); (case' turnS => (intro i9 p9 t9 I9 oI9 C9 oC9 D9 m9 ys9 h9 tk9 E9 hp9 hC9 hv9 lF9 lN9 off9 ne9; (have hr9 := hmr p9 (List.mem_of_getElem? hp9)); (try simp only [LCg.Off3, and_true] at off9))); (case' finS => (intro ys9 y9))))
  (k_with "call builtin:sum" => (k_dflt (refine' LcS_sum ?kF ?kN ?kh ?kl ?ki ?_; (case kF => k_asm); (case kN => k_asm); (case kh => exact rfl); (case kl => k_mem); (case ki => with_reducible assumption)); intro h8 tk8 t8 F8 N8; (try dsimp only); (try k_fold)))
  walk_at "ENTERC"
  k_steps
  · (rename News h₀ L _ _ => lN8)
    (rename _ < _ ∧ _ => hl8)
    intro _
    refine hret _ _ _ _ _ (by assumption) (by rw [wr_two]; exact news_sub lN8 (List.forall_mem_cons.mpr ⟨.head _, by walk_at "SUBL"⟩)) (tb_ltOf (by (have hl9 := hl8); repeat (first | exact hl9 | replace hl9 := hl9.2)))
  · exact ⟨⟨_, rfl⟩, rfl⟩
  · (rename Fr _ _ _ _ => lF8); (rename News _ _ _ _ => lN8)
    refine StepT.next lF8 lN8 ?_ (by walk_at "SUBS") fun _ => ⟨by walk_at "SAME", rfl, ?_⟩
    · intro p hp q
      exact Nat.ne_of_lt (z3 p hp) (List.mem_singleton.mp q)
    · exact ⟨_, Eq.trans (rfl : _ = some (Value.int ((wr ls os sts (List.take i9 ms)).1 * 2 ^ (ls.getD p9.toNat 0).toNat + (dues ls os os.length).1.getD p9.toNat 0) _)) (by rw [hK.wd p9 hr9.1 hr9.2]; rfl)⟩
  · (rename Fr _ _ _ _ => lF8); (rename News _ _ _ _ => lN8); (rename IntsAre _ _ => x8)
    refine StepT.next lF8 lN8 (z2 _) (by walk_at "SUBS") fun _ => ⟨by walk_at "SAME", _, _, _, _, rfl, x8, rfl, rfl⟩

end
section
/-- every list of the like of one -/
def perms : List Int → List (List Int)
  | [] => [[]]
  | a :: l => (perms l).flatMap fun p => (List.range (p.length + 1)).map fun i => p.take i ++ a :: p.drop i
theorem mem_perms : ∀ {l p : List Int}, p.Perm l → p ∈ perms l
  | [], p, h => by rw [h.eq_nil]; exact .head _
  | a :: l, p, h => by
    obtain ⟨s, t, rfl⟩ := List.append_of_mem (h.mem_iff.mpr (.head _))
    have h' : (s ++ t).Perm l := (List.perm_cons a).mp (List.perm_middle.symm.trans h)
    refine List.mem_flatMap.mpr ⟨s ++ t, mem_perms h', List.mem_map.mpr ⟨s.length, List.mem_range.mpr (by rw [List.length_append]; omega), ?_⟩⟩
    simp
/-- the 75 lists of lengths that a code for five may have -/
def vecs0 : List (List Int) := [[2, 2, 2, 3, 3], [2, 2, 3, 2, 3], [2, 2, 3, 3, 2], [2, 3, 2, 2, 3], [2, 3, 2, 3, 2], [2, 3, 3, 2, 2], [3, 2, 2, 2, 3], [3, 2, 2, 3, 2], [3, 2, 3, 2, 2], [3, 3, 2, 2, 2]]
def vecs1 : List (List Int) := [[1, 3, 3, 3, 3], [3, 1, 3, 3, 3], [3, 3, 1, 3, 3], [3, 3, 3, 1, 3], [3, 3, 3, 3, 1]]
def vecs2 : List (List Int) := [[1, 2, 3, 4, 4], [1, 2, 4, 3, 4], [1, 2, 4, 4, 3], [1, 3, 2, 4, 4], [1, 3, 4, 2, 4], [1, 3, 4, 4, 2], [1, 4, 2, 3, 4], [1, 4, 2, 4, 3], [1, 4, 3, 2, 4], [1, 4, 3, 4, 2], [1, 4, 4, 2, 3], [1, 4, 4, 3, 2], [2, 1, 3, 4, 4], [2, 1, 4, 3, 4], [2, 1, 4, 4, 3], [2, 3, 1, 4, 4], [2, 3, 4, 1, 4], [2, 3, 4, 4, 1], [2, 4, 1, 3, 4], [2, 4, 1, 4, 3], [2, 4, 3, 1, 4], [2, 4, 3, 4, 1], [2, 4, 4, 1, 3], [2, 4, 4, 3, 1], [3, 1, 2, 4, 4], [3, 1, 4, 2, 4], [3, 1, 4, 4, 2], [3, 2, 1, 4, 4], [3, 2, 4, 1, 4], [3, 2, 4, 4, 1], [3, 4, 1, 2, 4], [3, 4, 1, 4, 2], [3, 4, 2, 1, 4], [3, 4, 2, 4, 1], [3, 4, 4, 1, 2], [3, 4, 4, 2, 1], [4, 1, 2, 3, 4], [4, 1, 2, 4, 3], [4, 1, 3, 2, 4], [4, 1, 3, 4, 2], [4, 1, 4, 2, 3], [4, 1, 4, 3, 2], [4, 2, 1, 3, 4], [4, 2, 1, 4, 3], [4, 2, 3, 1, 4], [4, 2, 3, 4, 1], [4, 2, 4, 1, 3], [4, 2, 4, 3, 1], [4, 3, 1, 2, 4], [4, 3, 1, 4, 2], [4, 3, 2, 1, 4], [4, 3, 2, 4, 1], [4, 3, 4, 1, 2], [4, 3, 4, 2, 1], [4, 4, 1, 2, 3], [4, 4, 1, 3, 2], [4, 4, 2, 1, 3], [4, 4, 2, 3, 1], [4, 4, 3, 1, 2], [4, 4, 3, 2, 1]]
theorem perms0 : ∀ p ∈ perms (kd 0), p ∈ vecs0 := by decide +kernel
theorem perms1 : ∀ p ∈ perms (kd 1), p ∈ vecs1 := by decide +kernel
theorem perms2 : ∀ p ∈ perms (kd 2), p ∈ vecs2 := by decide +kernel
/-- what a window into the text tells -/
abbrev WinP (os sts : List Int) (p wd : Int) : Prop := bisN (fun j => !(decide (wd < sts.getD j 0))) 0 sts.length = ix os p + 1 ∧ bisN (fun j => decide (sts.getD j 0 < wd + 1)) 0 sts.length = ix os p + 1 ∧
  Builtin.bitAnd wd (sts.getD (ix os p) 0) = sts.getD (ix os p) 0 ∧ Builtin.bitOr wd (sts.getD (ix os p) 0) = wd
/-- what holds of every symbol -/
abbrev SymP (ls os sts : List Int) (p : Int) : Prop := p ∈ os ∧ ix os p < 5 ∧ os.getD (ix os p) 0 = p ∧ 0 ≤ wordOf ls os sts p ∧ wordOf ls os sts p < 2 ^ (ls.getD p.toNat 0).toNat ∧ 1 ≤ ls.getD p.toNat 0 ∧ ls.getD p.toNat 0 ≤ 4 ∧ ls.getD p.toNat 0 ≤ mx ls ∧
  (dues ls os os.length).1.getD p.toNat 0 = wordOf ls os sts p ∧ ∀ r ∈ List.range (2 ^ (mx ls - ls.getD p.toNat 0).toNat), WinP os sts p (wordOf ls os sts p * 2 ^ (mx ls - ls.getD p.toNat 0).toNat + (r : Int))
/-- what holds of a list of lengths -/
abbrev VecP (ls os sts : List Int) : Prop := (prGo true ls 5).map (·.2) = os ∧ (prGo false ls 5).map (·.2) = os ∧ ordGo false ls 5 = os ∧ os.length = 5 ∧ sts.length = 5 ∧ (∀ o ∈ os, 0 ≤ o ∧ o < 5) ∧ (∀ x ∈ ls, 1 ≤ x ∧ x ≤ 4) ∧ 0 ≤ mx ls ∧ mx ls ≤ 4 ∧
  (∀ x ∈ ls, ((ix ls x : Nat) : Int) ∈ os ∧ ix os (ix ls x : Nat) = bisN (fun j => decide (ls.getD (os.getD j 0).toNat 0 < x)) 0 os.length) ∧ kasVal 5 (pairLt ls) (kas_sort 5) = some (List.toArray (os.map Int.toNat)) ∧
  (∀ i ∈ List.range 5, 0 ≤ ls.getD (os.getD i 0).toNat 0 - (dues ls os i).2.2 ∧ ls.getD (os.getD i 0).toNat 0 - (dues ls os i).2.2 ≤ 1000 ∧ (dues ls os i).2.1.natAbs < 2 ^ 64) ∧ ∀ p ∈ [(0 : Int), 1, 2, 3, 4], SymP ls os sts p
theorem vecs0_ok : ∀ ls ∈ vecs0, VecP ls (ordGo true ls 5) (stGo ls (ordGo true ls 5) 4) := by decide +kernel
theorem vecs1_ok : ∀ ls ∈ vecs1, VecP ls (ordGo true ls 5) (stGo ls (ordGo true ls 5) 4) := by decide +kernel
theorem vecs2_ok : ∀ ls ∈ vecs2, VecP ls (ordGo true ls 5) (stGo ls (ordGo true ls 5) 4) := by decide +kernel

end
section
theorem vec_of {ls : List Int} {k : Nat} (h5 : ls.length = 5) (h : ls.Perm (kd k)) : VecP ls (ordGo true ls 5) (stGo ls (ordGo true ls 5) 4) := by
  match k, h with
  | 0, h => exact vecs0_ok _ (perms0 _ (mem_perms h))
  | 1, h => exact vecs1_ok _ (perms1 _ (mem_perms h))
  | 2, h => exact vecs2_ok _ (perms2 _ (mem_perms h))
  | k + 3, h =>
    have := h.length_eq
    rw [h5] at this
    exact absurd this (show ¬ (5 : Nat) = (kd (k + 3)).length from by show ¬ (5 : Nat) = 0; decide)
section
variable {ls os sts : List Int}
theorem VecP.ord (V : VecP ls os sts) (h : ordGo true ls 5 = os) (b : Bool) : OrdOk b ls ∧ ordGo b ls 5 = os := by
  cases b with
  | true => exact ⟨⟨by rw [h]; exact V.1⟩, h⟩
  | false => exact ⟨⟨by rw [V.2.2.1]; exact V.2.1⟩, V.2.2.1⟩
theorem VecP.l5 (V : VecP ls os sts) : os.length = 5 := V.2.2.2.1
theorem VecP.s5 (V : VecP ls os sts) : sts.length = 5 := V.2.2.2.2.1
theorem VecP.rng (V : VecP ls os sts) : ∀ o ∈ os, 0 ≤ o ∧ o < 5 := V.2.2.2.2.2.1
theorem VecP.sml (V : VecP ls os sts) : ∀ x ∈ ls, 1 ≤ x ∧ x ≤ 4 := V.2.2.2.2.2.2.1
theorem VecP.mx0 (V : VecP ls os sts) : 0 ≤ mx ls ∧ mx ls ≤ 4 := ⟨V.2.2.2.2.2.2.2.1, V.2.2.2.2.2.2.2.2.1⟩
theorem VecP.first (V : VecP ls os sts) : FirstOk ls os := ⟨V.2.2.2.2.2.2.2.2.2.1⟩
theorem VecP.sort (V : VecP ls os sts) : SortOk ls os := ⟨V.2.2.2.2.2.2.2.2.2.2.1⟩
theorem VecP.sym (V : VecP ls os sts) {p : Int} (p0 : 0 ≤ p) (p1 : p < 5) : SymP ls os sts p := V.2.2.2.2.2.2.2.2.2.2.2.2 p (by
  obtain rfl | rfl | rfl | rfl | rfl : p = 0 ∨ p = 1 ∨ p = 2 ∨ p = 3 ∨ p = 4 := by omega
  all_goals simp)
theorem VecP.word (V : VecP ls os sts) : WordOk ls os sts := ⟨fun p p0 p1 => by
  obtain ⟨_, _, _, a, b, c, d, _⟩ := V.sym p0 p1
  exact ⟨a, b, c, d⟩⟩
theorem VecP.due (V : VecP ls os sts) : DueOk ls os sts where
  rng := V.rng
  ok := fun i o h => by
    have hi : i < 5 := by rw [← V.l5]; exact (List.getElem?_eq_some_iff.mp h).1
    have := V.2.2.2.2.2.2.2.2.2.2.2.1 i (List.mem_range.mpr hi)
    rw [show os.getD i 0 = o by rw [List.getD_eq_getElem?_getD, h]; rfl] at this
    exact this
  wd := fun p p0 p1 => (V.sym p0 p1).2.2.2.2.2.2.2.2.1
theorem VecP.idx (V : VecP ls os sts) {ms : List Int} (hm : ∀ p ∈ ms, 0 ≤ p ∧ p < 5) : ∀ p ∈ ms, p ∈ os ∧ ix os p < 5 := fun p hp => by
  obtain ⟨a, b, _⟩ := V.sym (hm p hp).1 (hm p hp).2
  exact ⟨a, b⟩
/-- how many figures the words of a message have -/
def szs (ls ms : List Int) : Nat := (ms.map fun p => (ls.getD p.toNat 0).toNat).sum
theorem szs_cons (ls ms : List Int) (p : Int) : szs ls (p :: ms) = (ls.getD p.toNat 0).toNat + szs ls ms := by simp [szs]
theorem foldl_wr (ls os sts : List Int) : ∀ (ms : List Int) (n z : Int), (ms.foldl (wrF ls os sts) (n, z)).1 = n * 2 ^ szs ls ms + (wr ls os sts ms).1
  | [], n, z => by simp [szs, wr]
  | p :: r, n, z => by
    have e : wr ls os sts (p :: r) = r.foldl (wrF ls os sts) (wrF ls os sts (0, 0) p) := rfl
    rw [e, List.foldl_cons]
    show (r.foldl (wrF ls os sts) (n * 2 ^ (ls.getD p.toNat 0).toNat + wordOf ls os sts p, z + ls.getD p.toNat 0)).1 = _ + (r.foldl (wrF ls os sts) (0 * 2 ^ (ls.getD p.toNat 0).toNat + wordOf ls os sts p, 0 + ls.getD p.toNat 0)).1
    rw [foldl_wr ls os sts r, foldl_wr ls os sts r, szs_cons, Int.pow_add]
    grind
theorem wr_cons (ls os sts ms : List Int) (p : Int) : (wr ls os sts (p :: ms)).1 = wordOf ls os sts p * 2 ^ szs ls ms + (wr ls os sts ms).1 := by
  have e : wr ls os sts (p :: ms) = ms.foldl (wrF ls os sts) (wrF ls os sts (0, 0) p) := rfl
  rw [e]
  show (ms.foldl (wrF ls os sts) (0 * 2 ^ (ls.getD p.toNat 0).toNat + wordOf ls os sts p, 0 + ls.getD p.toNat 0)).1 = _
  rw [foldl_wr, Int.zero_mul, Int.zero_add]
theorem wr_app (ls os sts ms ns : List Int) : (wr ls os sts (ms ++ ns)).1 = (wr ls os sts ms).1 * 2 ^ szs ls ns + (wr ls os sts ns).1 := by
  unfold wr
  rw [List.foldl_append]
  exact foldl_wr ls os sts ns _ _
theorem VecP.bound (V : VecP ls os sts) : ∀ (ms : List Int), (∀ p ∈ ms, 0 ≤ p ∧ p < 5) → 0 ≤ (wr ls os sts ms).1 ∧ (wr ls os sts ms).1 < 2 ^ szs ls ms
  | [], _ => by simp [wr, szs]
  | p :: r, h => by
    obtain ⟨a, b⟩ := V.bound r fun q hq => h q (.tail _ hq)
    obtain ⟨_, _, _, c, d, _⟩ := V.sym (h p (.head _)).1 (h p (.head _)).2
    rw [wr_cons, szs_cons, Int.pow_add]
    have hk : (0 : Int) < 2 ^ szs ls r := Int.pow_pos (by decide)
    have h1 : 0 ≤ wordOf ls os sts p * 2 ^ szs ls r := Int.mul_nonneg c (Int.le_of_lt hk)
    have h2 : (wordOf ls os sts p + 1) * 2 ^ szs ls r ≤ 2 ^ (ls.getD p.toNat 0).toNat * 2 ^ szs ls r := Int.mul_le_mul_of_nonneg_right (by omega) (Int.le_of_lt hk)
    rw [Int.add_mul] at h2
    exact ⟨by omega, by omega⟩
theorem VecP.size (V : VecP ls os sts) : ∀ (ms : List Int), (∀ p ∈ ms, 0 ≤ p ∧ p < 5) → (szs ls ms : Int) = (ms.map fun p => ls.getD p.toNat 0).sum
  | [], _ => rfl
  | p :: r, h => by
    have e := V.size r fun q hq => h q (.tail _ hq)
    obtain ⟨_, _, _, _, _, c, _⟩ := V.sym (h p (.head _)).1 (h p (.head _)).2
    rw [szs_cons, List.map_cons, List.sum_cons, ← e]
    omega
end
theorem bitAnd_mask {x : Int} (k : Nat) (hx : 0 ≤ x) : Builtin.bitAnd x (1 * 2 ^ k - 1) = x % 2 ^ k := by
  obtain ⟨a, rfl⟩ : ∃ a : Nat, x = a := ⟨x.toNat, by omega⟩
  have hk : (0 : Nat) < 2 ^ k := Nat.pow_pos (by decide)
  have e : (1 * 2 ^ k - 1 : Int) = ((2 ^ k - 1 : Nat) : Int) := by
    rw [Int.one_mul]
    have : ((2 ^ k : Nat) : Int) = (2 : Int) ^ k := by push_cast; rfl
    rw [← this]
    omega
  rw [e]
  unfold Builtin.bitAnd
  rw [decide_eq_true hx, decide_eq_true (Int.natCast_nonneg _)]
  show ((((a : Int).toNat &&& ((2 ^ k - 1 : Nat) : Int).toNat : Nat) : Nat) : Int) = _
  rw [Int.toNat_natCast, Int.toNat_natCast, Nat.and_two_pow_sub_one_eq_mod]
  push_cast
  rfl
theorem VecP.read {ls os sts : List Int} (V : VecP ls os sts) {ms : List Int} (hm : ∀ p ∈ ms, 0 ≤ p ∧ p < 5) : ReadOk ls os sts ((wr ls os sts ms).1 * 2 ^ (mx ls).toNat) ms (fun i => (szs ls (ms.drop i) : Int)) where
  ok := fun i p hp => by
    have hpm := hm p (List.mem_of_getElem? hp)
    obtain ⟨s1, s2, s3, s4, s5, s6, s7, s8, s9, s10⟩ := V.sym hpm.1 hpm.2
    have hd : ms.drop i = p :: ms.drop (i + 1) := by
      obtain ⟨hi, e⟩ := List.getElem?_eq_some_iff.mp hp
      rw [List.drop_eq_getElem_cons hi, e]
    have hms : ms = ms.take i ++ p :: ms.drop (i + 1) := by rw [← hd, List.take_append_drop]
    have hS : szs ls (ms.drop i) = (ls.getD p.toNat 0).toNat + szs ls (ms.drop (i + 1)) := by rw [hd, szs_cons]
    have hW : (wr ls os sts ms).1 = (wr ls os sts (ms.take i)).1 * 2 ^ szs ls (ms.drop i) + (wordOf ls os sts p * 2 ^ szs ls (ms.drop (i + 1)) + (wr ls os sts (ms.drop (i + 1))).1) := by
      rw [← wr_cons, ← hd, ← wr_app, List.take_append_drop]
    obtain ⟨n0, _⟩ := V.bound (ms.take i) fun q hq => hm q (List.mem_of_mem_take hq)
    obtain ⟨r0, r1⟩ := V.bound (ms.drop (i + 1)) fun q hq => hm q (List.mem_of_mem_drop hq)
    refine ⟨hpm.1, hpm.2, Int.natCast_nonneg _, by rw [hS]; omega, ?_⟩
    rw [Int.toNat_natCast]
    generalize hwd : Builtin.bitAnd (((wr ls os sts ms).1 * 2 ^ (mx ls).toNat).fdiv (2 ^ szs ls (ms.drop i))) (1 * 2 ^ (mx ls).toNat - 1) = wd
    refine ⟨wd, rfl, ?_⟩
    suffices h : ∃ r ∈ List.range (2 ^ (mx ls - ls.getD p.toNat 0).toNat), wd = wordOf ls os sts p * 2 ^ (mx ls - ls.getD p.toNat 0).toNat + (r : Int) by
      obtain ⟨r, hr, rfl⟩ := h
      obtain ⟨a, b, c, d⟩ := s10 r hr
      exact ⟨a, b, s2, s3, c, d⟩
    rw [hW, hS] at hwd
    clear s10 s9 hW hS hms hd
    generalize (wr ls os sts (ms.take i)).1 = n at *
    generalize (wr ls os sts (ms.drop (i + 1))).1 = r at *
    generalize szs ls (ms.drop (i + 1)) = z at *
    generalize wordOf ls os sts p = v at *
    obtain ⟨l, hl⟩ : ∃ l : Nat, ls.getD p.toNat 0 = l := ⟨(ls.getD p.toNat 0).toNat, by omega⟩
    obtain ⟨d, hd⟩ : ∃ d : Nat, mx ls = l + d := ⟨(mx ls - l).toNat, by omega⟩
    rw [hl] at hwd s5 ⊢
    rw [hd] at hwd ⊢
    rw [show ((l : Int) + d - l).toNat = d by omega]
    rw [show ((l : Int) + d).toNat = l + d by omega, Int.toNat_natCast] at hwd
    rw [Int.toNat_natCast] at s5
    have pl : (0 : Int) < 2 ^ l := Int.pow_pos (by decide)
    have pd : (0 : Int) < 2 ^ d := Int.pow_pos (by decide)
    have pz : (0 : Int) < 2 ^ z := Int.pow_pos (by decide)
    have ps : (0 : Int) < 2 ^ (l + z) := Int.pow_pos (by decide)
    have e : (n * 2 ^ (l + z) + (v * 2 ^ z + r)) * 2 ^ (l + d) = r * 2 ^ (l + d) + (n * 2 ^ (l + d) + v * 2 ^ d) * 2 ^ (l + z) := by
      rw [Int.pow_add, Int.pow_add]
      grind
    have hx : 0 ≤ r * 2 ^ (l + d) := Int.mul_nonneg r0 (Int.le_of_lt (Int.pow_pos (by decide)))
    have hv : 0 ≤ v * 2 ^ d := Int.mul_nonneg s4 (Int.le_of_lt pd)
    have hn : 0 ≤ n * 2 ^ (l + d) := Int.mul_nonneg n0 (Int.le_of_lt (Int.pow_pos (by decide)))
    have hq0 : 0 ≤ r * 2 ^ (l + d) / 2 ^ (l + z) := Int.ediv_nonneg hx (Int.le_of_lt ps)
    have hq1 : r * 2 ^ (l + d) / 2 ^ (l + z) < 2 ^ d := by
      refine Int.ediv_lt_of_lt_mul ps ?_
      have : r * 2 ^ (l + d) < 2 ^ z * 2 ^ (l + d) := Int.mul_lt_mul_of_pos_right r1 (Int.pow_pos (by decide))
      have e2 : (2 : Int) ^ z * 2 ^ (l + d) = 2 ^ d * 2 ^ (l + z) := by rw [Int.pow_add, Int.pow_add]; grind
      omega
    rw [Int.fdiv_eq_ediv_of_nonneg _ (Int.le_of_lt ps), e, Int.add_mul_ediv_right _ _ (by omega), bitAnd_mask _ (by omega)] at hwd
    generalize r * 2 ^ (l + d) / 2 ^ (l + z) = q at *
    have hlt : v * 2 ^ d + q < 2 ^ (l + d) := by
      have h2 : (v + 1) * 2 ^ d ≤ 2 ^ l * 2 ^ d := Int.mul_le_mul_of_nonneg_right (by omega) (Int.le_of_lt pd)
      rw [Int.add_mul] at h2
      rw [Int.pow_add]
      omega
    rw [show q + (n * 2 ^ (l + d) + v * 2 ^ d) = (v * 2 ^ d + q) + n * 2 ^ (l + d) by omega, Int.add_mul_emod_self_right, Int.emod_eq_of_lt (by omega) hlt] at hwd
    refine ⟨q.toNat, List.mem_range.mpr ?_, by omega⟩
    have : ((2 ^ d : Nat) : Int) = (2 : Int) ^ d := by push_cast; rfl
    omega

end
section
theorem words_etab : True := by
  k_with_none
  (k_with "CJ" => (with_reducible first | assumption | exact cj0 ‹_› | exact cj1 ‹_› | exact cl1 ‹_› | exact cj2 ‹_› | exact cl2 ‹_› | exact cj3 ‹_› | exact cl3 ‹_› | exact cj4 ‹_› | exact cl4 ‹_› | exact cj5 ‹_› | exact cl5 ‹_› | exact cj6 ‹_› | exact cl6 ‹_› | exact cj7 ‹_› | exact cl7 ‹_› | exact cj8 ‹_› | exact cl8 ‹_› | exact cj9 ‹_› | exact cl9 ‹_› | exact cj10 ‹_› | exact cl10 ‹_› | exact cj11 ‹_› | exact cl11 ‹_› | exact cj12 ‹_› | exact cl12 ‹_›))
  (k_with "k_ne" => (((refine neN ?_); (try dsimp only); first | exact Nat.ne_of_gt (by k_extra "CJ") | exact Nat.ne_of_lt (by k_extra "CJ") | k_extra "CJ" | exact Ne.symm (by k_extra "CJ"))))
  (k_with "ktr_room" => (first | exact rm0 ‹_› | exact rm1 ‹_› rfl | exact rm2 ‹_› rfl | exact rm3 ‹_› rfl))
  (k_with "ktr_units" => (first | exact rm0 ‹_› | exact rm1 ‹_› rfl | exact rm2 ‹_› rfl | exact rm3 ‹_› rfl))
  (k_with "k_mem" => (first | exact List.Mem.head _ | (refine' List.Mem.tail _ ?_; k_mem) | (show (_ : Addr × Obj) ∈ (_ : List (Addr × Obj)); with_reducible assumption)))
  (k_with "callWith ref" => ((k_here; k_dflt (first | (refine' callWith_K ?zzk1 ?zzk2 ?_; (case zzk1 => k_asm); (case zzk2 => k_is); k_whole) | (refine' callWith_KW ?zzk1 ?zzk2 ?zzk3 ?_; (case zzk1 => k_asm); (case zzk2 => k_is); (case zzk3 => exact rfl); k_whole)))))
  (k_with "call builtin:len" => ((k_here; (with_reducible show wpAny _ _ (call (Value.builtin "len") [Value.ref _]) _ _ _); k_dflt (refine' my_len ?zzk1 ?zzk2 ?zzk3 ?_; (case zzk1 => k_asm); (case zzk2 => k_mem); (case zzk3 => first | assumption | omega); k_whole))))
  (k_with "callWith ref" => ((k_here; k_dflt (refine' callWith_Fn1 ?zzkf ?_; (case zzkf => with_reducible assumption); k_whole))))
  (k_with "And" => (((with_reducible show IsFn _ _ ∧ _); refine ⟨KeyFn.get (by with_reducible assumption) (by k_in) (by k_asm), ?_⟩; try dsimp only [List.nil_append, List.cons_append])))
  exact True.intro
/-- a world's numbers, of no matter -/
def P0 : Params := { strHash := fun _ => 0, shareClass := fun _ => 0, mergeTok := fun t => t, idOf := fun _ => 0, idOfShared := fun _ _ => 0, followText := fun _ => true, idOfImm := fun _ => 0 }
/-- the entries of the table of signs -/
noncomputable def etEs (P : Params) : Array DictEntry := match (hd.heap_39 P).lookup 121 with
  | some ⟨_, _, .dict es _, _⟩ => es
  | _ => #[]
noncomputable def etL : List (Value × Value) := (etEs P0).toList.map fun e => (e.key, e.val)
noncomputable def etFind (k : Str) : Option Value := (etL.find? fun q => Value.isStrOf k q.1).map (·.2)
theorem etL_eq (P : Params) : (etEs P).toList.map (fun e => (e.key, e.val)) = etL := by with_unfolding_all rfl
theorem findBy_et (P : Params) (k : Str) : findBy Value.isStrOf (etEs P) k = etFind k := by
  unfold etFind
  rw [← etL_eq P, List.find?_map, Option.map_map]
  unfold findBy
  rw [← Array.find?_toList]
  rfl
def strAt : Value → Str
  | .str s _ => s
  | _ => ⟨#[]⟩
theorem isStr_self (s : Str) (t : Tok) : Value.isStrOf (strAt (.str s t)) (.str s t) = true := by simp [Value.isStrOf, strAt]
theorem etKeys (prog : Program) (w : World) : KeysOf (strKind prog w) (etEs w.params) := by
  have h : ∀ e ∈ (etEs w.params).toList, Value.isStrOf (strAt e.key) e.key = true ∧ e.hash = hashStr w (strAt e.key) := by
    with_unfolding_all (repeat (first | exact List.forall_mem_nil _ | refine List.forall_mem_cons.mpr ⟨⟨isStr_self _ _, rfl⟩, ?_⟩))
  exact fun e he => ⟨strAt e.key, h e (Array.mem_toList_iff.mpr he)⟩
theorem et_get {w : World} {h : Heap} (X : (hd.heap_39 w.params).In h) : ∃ ep, h.get? 121 = some { cls := .type "dict", data := .dict (etEs w.params) ep } := ⟨_, X 121 _ rfl⟩
theorem et_map {prog : Program} {w : World} {h : Heap} (X : (hd.heap_39 w.params).In h) : h.MapOf (strKind prog w) 121 etFind := by
  obtain ⟨ep, e⟩ := et_get X
  exact ⟨_, _, _, e, ⟨rfl, rfl, rfl⟩, rfl, etKeys prog w, fun k => findBy_et w.params k⟩

end
section
theorem words_cutp : True := by
  k_with_none
  (k_with "CJ" => (with_reducible first | assumption | exact cj0 ‹_› | exact cj1 ‹_› | exact cl1 ‹_› | exact cj2 ‹_› | exact cl2 ‹_› | exact cj3 ‹_› | exact cl3 ‹_› | exact cj4 ‹_› | exact cl4 ‹_› | exact cj5 ‹_› | exact cl5 ‹_› | exact cj6 ‹_› | exact cl6 ‹_› | exact cj7 ‹_› | exact cl7 ‹_› | exact cj8 ‹_› | exact cl8 ‹_› | exact cj9 ‹_› | exact cl9 ‹_› | exact cj10 ‹_› | exact cl10 ‹_› | exact cj11 ‹_› | exact cl11 ‹_› | exact cj12 ‹_› | exact cl12 ‹_›))
  (k_with "k_ne" => (((refine neN ?_); (try dsimp only); first | exact Nat.ne_of_gt (by k_extra "CJ") | exact Nat.ne_of_lt (by k_extra "CJ") | k_extra "CJ" | exact Ne.symm (by k_extra "CJ"))))
  (k_with "ktr_room" => (first | exact rm0 ‹_› | exact rm1 ‹_› rfl | exact rm2 ‹_› rfl | exact rm3 ‹_› rfl))
  (k_with "ktr_units" => (first | exact rm0 ‹_› | exact rm1 ‹_› rfl | exact rm2 ‹_› rfl | exact rm3 ‹_› rfl))
  (k_with "k_mem" => (first | exact List.Mem.head _ | (refine' List.Mem.tail _ ?_; k_mem) | (show (_ : Addr × Obj) ∈ (_ : List (Addr × Obj)); with_reducible assumption)))
  (k_with "callWith ref" => ((k_here; k_dflt (first | (refine' callWith_K ?zzk1 ?zzk2 ?_; (case zzk1 => k_asm); (case zzk2 => k_is); k_whole) | (refine' callWith_KW ?zzk1 ?zzk2 ?zzk3 ?_; (case zzk1 => k_asm); (case zzk2 => k_is); (case zzk3 => exact rfl); k_whole)))))
  (k_with "call builtin:len" => ((k_here; (with_reducible show wpAny _ _ (call (Value.builtin "len") [Value.ref _]) _ _ _); k_dflt (refine' my_len ?zzk1 ?zzk2 ?zzk3 ?_; (case zzk1 => k_asm); (case zzk2 => k_mem); (case zzk3 => first | assumption | omega); k_whole))))
  (k_with "callWith ref" => ((k_here; k_dflt (refine' callWith_Fn1 ?zzkf ?_; (case zzkf => with_reducible assumption); k_whole))))
  (k_with "And" => (((with_reducible show IsFn _ _ ∧ _); refine ⟨KeyFn.get (by with_reducible assumption) (by k_in) (by k_asm), ?_⟩; try dsimp only [List.nil_append, List.cons_append])))
  exact True.intro
/-- the text of the signs, as the written part of the heap holds it -/
noncomputable def sgStr (P : Params) : Str := match fnBody P 144 with
  | [.Return (some (.Call (.Attribute (.Constant (.str s) _ _) _ _) _ _ _)) _] => s
  | _ => ⟨#[]⟩
theorem sgStr_eq (P : Params) : sgStr P = sgStr P0 := by with_unfolding_all rfl
def blank : Str := ⟨#[32]⟩
noncomputable def sgTab : List Str := Txt.split (sgStr P0) blank
noncomputable def sg (n : Nat) : List Nat := (sgTab.getD n ⟨#[]⟩).cps.toList
def intOf : Option Value → Option Int
  | some (.int i _) => some i
  | _ => none
theorem sg_len : sgTab.length = 48 := by decide +kernel
theorem sg_int : ∀ n ∈ List.range 48, intOf (etFind (sgTab.getD n ⟨#[]⟩)) = some ((n : Int) + 7) := by decide +kernel
theorem sg_codes : ∀ n ∈ List.range 48, 1 ≤ (sg n).length ∧ (sg n).length ≤ 3 ∧ 32 ∉ sg n := by decide +kernel
theorem et_codes : ∀ q ∈ etL, 32 ∉ (strAt q.1).cps.toList := by decide +kernel
theorem isStr_at {k : Str} {v : Value} (h : Value.isStrOf k v = true) : strAt v = k := by
  obtain ⟨t, rfl⟩ := Value.isStrOf_shape h
  rfl
theorem et_blank {k : Str} (h : 32 ∈ k.cps.toList) : etFind k = none := by
  unfold etFind
  rw [Option.map_eq_none_iff, List.find?_eq_none]
  intro q hq hk
  have := et_codes q hq
  rw [isStr_at hk] at this
  exact this h
/-- a piece of a text -/
def piece (T : List Nat) (p k : Nat) : Str := ⟨((T.drop p).take k).toArray⟩
/-- what a found entry adds -/
inductive Adds : Option Value → List Int → Prop
  | none : Adds none []
  | some (i : Int) (t : Tok) : Adds (some (.int i t)) [i]
/-- how the text is cut from p on -/
inductive Cuts (T : List Nat) : Nat → List Int → Prop
  | done : Cuts T T.length []
  | step (p k : Nat) (o : Option Value) (x r : List Int) (h1 : 1 ≤ k) (h3 : k ≤ 3) (hp : p + k ≤ T.length) (hn : ∀ k', k < k' → k' ≤ 3 → p + k' ≤ T.length → etFind (piece T p k') = Option.none) (ho : etFind (piece T p k) = o) (hx : Adds o x) (hk : o = Option.none → k = 1) (hr : Cuts T (p + k) r) : Cuts T p (x ++ r)
theorem Cuts.le {T : List Nat} {p : Nat} {r : List Int} (h : Cuts T p r) : p ≤ T.length := by
  cases h with
  | done => exact Nat.le_refl _
  | step => omega
/-- the signs with blanks between -/
noncomputable def glue : List Nat → List Nat
  | [] => []
  | [n] => sg n
  | n :: m :: r => sg n ++ 32 :: glue (m :: r)
theorem piece_blank {T pre c rest : List Nat} (hT : T = pre ++ (c ++ 32 :: rest)) {k : Nat} (hk : c.length < k) : etFind (piece T pre.length k) = none := by
  apply et_blank
  unfold piece
  dsimp only
  rw [hT, List.drop_left' rfl, List.take_append, List.mem_append]
  right
  obtain ⟨j, hj⟩ : ∃ j, k - c.length = j + 1 := ⟨k - c.length - 1, by omega⟩
  rw [hj, List.take_succ_cons]
  exact .head _
theorem cuts_glue : ∀ (ns : List Nat) (T pre : List Nat), ns ≠ [] → (∀ n ∈ ns, n < 48) → T = pre ++ glue ns → Cuts T pre.length (ns.map fun n : Nat => (n : Int) + 7)
  | [], _, _, h, _, _ => absurd rfl h
  | [n], T, pre, _, hn, hT => by
    have hn' := hn n (.head _)
    obtain ⟨c1, c2, _⟩ := sg_codes n (List.mem_range.mpr hn')
    have hi := sg_int n (List.mem_range.mpr hn')
    have hl : T.length = pre.length + (sg n).length := by rw [hT, List.length_append]; rfl
    have hp : piece T pre.length (sg n).length = sgTab.getD n ⟨#[]⟩ := by
      unfold piece
      rw [hT, List.drop_left' rfl]
      show (⟨(List.take (sg n).length (sg n)).toArray⟩ : Str) = _
      rw [List.take_length]
      unfold sg
      rw [Array.toArray_toList]
    have hr : Cuts T (pre.length + (sg n).length) [] := by rw [← hl]; exact .done
    cases e : etFind (sgTab.getD n ⟨#[]⟩) with
    | none => rw [e] at hi; exact nomatch hi
    | some v =>
      rw [e] at hi
      cases v with
      | int i t =>
        have hi : i = (n : Int) + 7 := by simpa [intOf] using hi
        subst hi
        exact Cuts.step pre.length (sg n).length (some (.int ((n : Int) + 7) t)) [(n : Int) + 7] [] c1 c2 (by omega) (fun k' a b c => by omega) (by rw [hp, e]) (.some _ _) (fun h => nomatch h) hr
      | _ => exact nomatch hi
  | n :: m :: r, T, pre, _, hn, hT => by
    have hn' := hn n (.head _)
    obtain ⟨c1, c2, _⟩ := sg_codes n (List.mem_range.mpr hn')
    have hi := sg_int n (List.mem_range.mpr hn')
    have hT1 : T = pre ++ (sg n ++ 32 :: glue (m :: r)) := hT
    have hT2 : T = (pre ++ sg n) ++ ([] ++ 32 :: glue (m :: r)) := by rw [hT1, List.append_assoc]; rfl
    have hT3 : T = (pre ++ sg n ++ [32]) ++ glue (m :: r) := by rw [hT1]; simp
    have ih := cuts_glue (m :: r) T (pre ++ sg n ++ [32]) (by simp) (fun x hx => hn x (.tail _ hx)) hT3
    have hl : T.length = pre.length + (sg n).length + 1 + (glue (m :: r)).length := by rw [hT3]; simp; omega
    have hl2 : (pre ++ sg n ++ [32]).length = pre.length + (sg n).length + 1 := by simp; omega
    have hl3 : (pre ++ sg n).length = pre.length + (sg n).length := by simp
    have hp : piece T pre.length (sg n).length = sgTab.getD n ⟨#[]⟩ := by
      unfold piece
      rw [hT1, List.drop_left' rfl, List.take_append_of_le_length (Nat.le_refl _), List.take_length]
      unfold sg
      rw [Array.toArray_toList]
    rw [hl2] at ih
    have hb : ∀ k, 0 < k → etFind (piece T (pre.length + (sg n).length) k) = none := fun k hk => by
      have := piece_blank hT2 (k := k) hk
      rw [hl3] at this
      exact this
    have h2 : Cuts T (pre.length + (sg n).length) ([] ++ (m :: r).map fun n : Nat => (n : Int) + 7) :=
      Cuts.step _ 1 none [] _ (Nat.le_refl _) (by omega) (by omega) (fun k' a _ _ => hb k' (by omega)) (hb 1 (by omega)) .none (fun _ => rfl) ih
    cases e : etFind (sgTab.getD n ⟨#[]⟩) with
    | none => rw [e] at hi; exact nomatch hi
    | some v =>
      rw [e] at hi
      cases v with
      | int i t =>
        have hi : i = (n : Int) + 7 := by simpa [intOf] using hi
        subst hi
        exact Cuts.step pre.length (sg n).length (some (.int ((n : Int) + 7) t)) [(n : Int) + 7] _ c1 c2 (by omega) (fun k' a _ _ => piece_blank hT1 a) (by rw [hp, e]) (.some _ _) (fun h => nomatch h) h2
      | _ => exact nomatch hi
/-- a written piece is what a slice takes -/
theorem slice_piece (x : Str) {p k : Nat} (h : p + k ≤ x.length) : Txt.slice x (some (p : Int)) (some ((p : Int) + (k : Int))) = piece x.cps.toList p k := by
  have e : (p : Int) + (k : Int) = ((p + k : Nat) : Int) := by push_cast; rfl
  unfold Txt.slice piece
  rw [e]
  split
  · rename_i hc
    simp only [Bool.and_eq_true, beq_iff_eq] at hc
    have h1 := StrLaws.strSliceIndices_plain (a := p) (b := p + k) (len := x.length) (by omega) h
    rw [h1, List.length_map, List.length_range] at hc
    have : p = 0 := by omega
    subst this
    have hk : x.cps.toList.length ≤ k := by rw [Array.length_toList]; show x.length ≤ k; omega
    rw [List.drop_zero, List.take_of_length_le hk, Array.toArray_toList]
  · rw [StrLaws.sliced_plain x (by omega) h, show p + k - p = k by omega]

end
section
theorem words_signs : True := by
  k_with_none
  (k_with "CJ" => (with_reducible first | assumption | exact cj0 ‹_› | exact cj1 ‹_› | exact cl1 ‹_› | exact cj2 ‹_› | exact cl2 ‹_› | exact cj3 ‹_› | exact cl3 ‹_› | exact cj4 ‹_› | exact cl4 ‹_› | exact cj5 ‹_› | exact cl5 ‹_› | exact cj6 ‹_› | exact cl6 ‹_› | exact cj7 ‹_› | exact cl7 ‹_› | exact cj8 ‹_› | exact cl8 ‹_› | exact cj9 ‹_› | exact cl9 ‹_› | exact cj10 ‹_› | exact cl10 ‹_› | exact cj11 ‹_› | exact cl11 ‹_› | exact cj12 ‹_› | exact cl12 ‹_›))
  (k_with "k_ne" => (((refine neN ?_); (try dsimp only); first | exact Nat.ne_of_gt (by k_extra "CJ") | exact Nat.ne_of_lt (by k_extra "CJ") | k_extra "CJ" | exact Ne.symm (by k_extra "CJ"))))
  (k_with "ktr_room" => (first | exact rm0 ‹_› | exact rm1 ‹_› rfl | exact rm2 ‹_› rfl | exact rm3 ‹_› rfl))
  (k_with "ktr_units" => (first | exact rm0 ‹_› | exact rm1 ‹_› rfl | exact rm2 ‹_› rfl | exact rm3 ‹_› rfl))
  (k_with "k_mem" => (first | exact List.Mem.head _ | (refine' List.Mem.tail _ ?_; k_mem) | (show (_ : Addr × Obj) ∈ (_ : List (Addr × Obj)); with_reducible assumption)))
  (k_with "BINDS" => (first | exact BindsTo.of_eq rfl | exact binds_K (by k_in) rfl (by k_is) rfl rfl rfl | (refine' kp_binds ?zzkx ?zzke; (case zzkx => k_in); (case zzke => exact fun _ => rfl))))
  (k_with "ENTER" => ((refine wpAny_call ?_; first | k_dflt (refine' code_def ?zzk1 ?zzk2 ?zzk3 ?zzk4 ?zzk5 ?zzkA ?zzkF ?zzkK ?zzk6 ?zzk7 ?zzk8 ?zzk9 ?zzkB ?_ ?zzc2 ?zzc3 ?zzc4 ?zzc5; (case zzkA => exact rfl); (case zzkF => exact rfl); (case zzkK => assumption); (case zzk1 => k_asm); (case zzk2 => k_asm); (case zzk3 => k_asm); (case zzk4 => k_asm); (case zzk5 => k_asm); (case zzk6 => k_is); (case zzk7 => k_is); (case zzk8 => ktr_room); (case zzk9 => walk_at "BINDS"); (case zzc5 => decide); (case zzkB => exact locs rfl); (case zzc2 => exact rfl); (case zzc3 => exact rfl); (case zzc4 => exact rfl); k_whole; (first | (k_extra "EPSENT"; refine no_implicit_lambda% (all_eps3 (i := by k_extra "NE9") ?_); generalize pj0 _ = g', pj1 _ = L', pj2 _ = h'; intro FG' F' N' B' X' T') | intro g' L' h' FG' F' N' B' X' T'); (try dsimp only); (try k_lift B'); (try k_fold)) | k_dflt (refine' code_defC ?zzk1 ?zzk2 ?zzk3 ?zzk4 ?zzk5 ?zzkA ?zzkF ?zzkK ?zzk6 ?zzk7 ?zzk8 ?zzk9 ?zzkB ?zzkD ?_ ?zzc2 ?zzc3 ?zzc4; (case zzkA => exact rfl); (case zzkF => exact rfl); (case zzkK => assumption); (case zzk1 => k_asm); (case zzk2 => k_asm); (case zzk3 => k_asm); (case zzk4 => k_asm); (case zzk5 => k_asm); (case zzk6 => k_is); (case zzk7 => k_is); (case zzk8 => ktr_room); (case zzk9 => walk_at "BINDS"); (case zzkB => exact rfl); (case zzkD => decide +kernel); (case zzc2 => exact rfl); (case zzc3 => exact rfl); (case zzc4 => exact rfl); k_whole; (first | (k_extra "EPSENT"; refine no_implicit_lambda% (all_eps5 (i := by k_extra "NE9") ?_); generalize pj0 _ = g', pj1 _ = L', pj2 _ = h', pj3 _ = tk', pj4 _ = cells'; intro FG' F' N' Y' B' X' T' l1) | intro g' L' h' tk' cells' FG' F' N' Y' B' X' T' l1); (try k_lt l1); k_cells Y'; (try simp only [List.cons_append, List.nil_append] at N'); (try dsimp only); (try k_lift B'); (try k_fold)))))
  (k_with "callWith ref" => ((k_here; k_dflt (first | (refine' callWith_K ?zzk1 ?zzk2 ?_; (case zzk1 => k_asm); (case zzk2 => k_is); k_whole) | (refine' callWith_KW ?zzk1 ?zzk2 ?zzk3 ?_; (case zzk1 => k_asm); (case zzk2 => k_is); (case zzk3 => exact rfl); k_whole)))))
  (k_with "call builtin:len" => ((k_here; (with_reducible show wpAny _ _ (call (Value.builtin "len") [Value.ref _]) _ _ _); k_dflt (refine' my_len ?zzk1 ?zzk2 ?zzk3 ?_; (case zzk1 => k_asm); (case zzk2 => k_mem); (case zzk3 => first | assumption | omega); k_whole))))
  (k_with "callWith ref" => ((k_here; k_dflt (refine' callWith_Fn1 ?zzkf ?_; (case zzkf => with_reducible assumption); k_whole))))
  (k_with "And" => (((with_reducible show IsFn _ _ ∧ _); refine ⟨KeyFn.get (by with_reducible assumption) (by k_in) (by k_asm), ?_⟩; try dsimp only [List.nil_append, List.cons_append])))
  (k_with "CompEnd" => ((k_dflt (refine' compEnd_same ?zzF ?zzN ?zzoff ?zzsrc ?_; (case zzF => k_asm); (case zzN => k_asm); (case zzoff => first | assumption | ((simp only [LCg.Off3, and_true]); first | done | assumption)); (case zzsrc => lcg_src)))))
  exact True.intro
theorem c_signs {prog : Program} {w : World} {loose : List Str} {mean : ExcName → Option Value} {mg mb : Str → Option Value}
    {dp un : Nat} {gd : Option (List Code)} {cn : Str} {cs : Scope} {a : Addr} {ccd : Value} {cl : List (Str × Addr)} {outer : List Env} {A₀ : Around} {base h₀ : Heap} {L : Addr} {m : Str → Option Value} {s : Shared} {Q E : Value → Shared → Prop} {news : List (Addr × Obj)}
    (B : Below A₀ base outer h₀) (F : Fr h₀ L s.heap m) (X : (hd.heap_39 w.params).In h₀) (N : News h₀ L s.heap news) (T : Top topProg loose mean mg mb h₀) (hk : cs.kind = .function)
    (hdp : dp + 10 < recursionLimit) (hun : un + 300 < cLine)
    (hret : ∀ r l c h' tk', Fr h₀ L h' m → News h₀ L h' ((r, listOf (List.toArray (strValues l)) c) :: news) → (∀ p ∈ news, p.1 < r) → Sealed (l.map (·.1) = sgTab) → Q (.ref r) { s with heap := h', toks := tk' }) :
    wpAny (model prog w) (ktrTop dp un gd cn cs L a ccd cl outer) (call (.ref 144) []) Q E s := by
  walk_at "ENTER"
  k_steps
  (rename _ = Txt.split _ _ => e9)
  refine hret _ _ _ _ _ (by assumption) (by assumption) (by assumption) ⟨e9.trans ?_⟩
  show Txt.split _ _ = Txt.split (sgStr P0) blank
  exact congr (congrArg Txt.split (by with_unfolding_all rfl)) (by decide +kernel)

end
section
theorem words_cut : True := by
  k_with_none
  (k_with "CJ" => (with_reducible first | assumption | exact cj0 ‹_› | exact cj1 ‹_› | exact cl1 ‹_› | exact cj2 ‹_› | exact cl2 ‹_› | exact cj3 ‹_› | exact cl3 ‹_› | exact cj4 ‹_› | exact cl4 ‹_› | exact cj5 ‹_› | exact cl5 ‹_› | exact cj6 ‹_› | exact cl6 ‹_› | exact cj7 ‹_› | exact cl7 ‹_› | exact cj8 ‹_› | exact cl8 ‹_› | exact cj9 ‹_› | exact cl9 ‹_› | exact cj10 ‹_› | exact cl10 ‹_› | exact cj11 ‹_› | exact cl11 ‹_› | exact cj12 ‹_› | exact cl12 ‹_›))
  (k_with "k_ne" => (((refine neN ?_); (try dsimp only); first | exact Nat.ne_of_gt (by k_extra "CJ") | exact Nat.ne_of_lt (by k_extra "CJ") | k_extra "CJ" | exact Ne.symm (by k_extra "CJ"))))
  (k_with "ktr_room" => (first | exact rm0 ‹_› | exact rm1 ‹_› rfl | exact rm2 ‹_› rfl | exact rm3 ‹_› rfl))
  (k_with "ktr_units" => (first | exact rm0 ‹_› | exact rm1 ‹_› rfl | exact rm2 ‹_› rfl | exact rm3 ‹_› rfl))
  (k_with "k_mem" => (first | exact List.Mem.head _ | (refine' List.Mem.tail _ ?_; k_mem) | (show (_ : Addr × Obj) ∈ (_ : List (Addr × Obj)); with_reducible assumption)))
  (k_with "BINDS" => (first | exact BindsTo.of_eq rfl | exact binds_K (by k_in) rfl (by k_is) rfl rfl rfl | (refine' kp_binds ?zzkx ?zzke; (case zzkx => k_in); (case zzke => exact fun _ => rfl))))
  (k_with "ENTER" => ((refine wpAny_call ?_; first | k_dflt (refine' code_def ?zzk1 ?zzk2 ?zzk3 ?zzk4 ?zzk5 ?zzkA ?zzkF ?zzkK ?zzk6 ?zzk7 ?zzk8 ?zzk9 ?zzkB ?_ ?zzc2 ?zzc3 ?zzc4 ?zzc5; (case zzkA => exact rfl); (case zzkF => exact rfl); (case zzkK => assumption); (case zzk1 => k_asm); (case zzk2 => k_asm); (case zzk3 => k_asm); (case zzk4 => k_asm); (case zzk5 => k_asm); (case zzk6 => k_is); (case zzk7 => k_is); (case zzk8 => ktr_room); (case zzk9 => walk_at "BINDS"); (case zzc5 => decide); (case zzkB => exact locs rfl); (case zzc2 => exact rfl); (case zzc3 => exact rfl); (case zzc4 => exact rfl); k_whole; (first | (k_extra "EPSENT"; refine no_implicit_lambda% (all_eps3 (i := by k_extra "NE9") ?_); generalize pj0 _ = g', pj1 _ = L', pj2 _ = h'; intro FG' F' N' B' X' T') | intro g' L' h' FG' F' N' B' X' T'); (try dsimp only); (try k_lift B'); (try k_fold)) | k_dflt (refine' code_defC ?zzk1 ?zzk2 ?zzk3 ?zzk4 ?zzk5 ?zzkA ?zzkF ?zzkK ?zzk6 ?zzk7 ?zzk8 ?zzk9 ?zzkB ?zzkD ?_ ?zzc2 ?zzc3 ?zzc4; (case zzkA => exact rfl); (case zzkF => exact rfl); (case zzkK => assumption); (case zzk1 => k_asm); (case zzk2 => k_asm); (case zzk3 => k_asm); (case zzk4 => k_asm); (case zzk5 => k_asm); (case zzk6 => k_is); (case zzk7 => k_is); (case zzk8 => ktr_room); (case zzk9 => walk_at "BINDS"); (case zzkB => exact rfl); (case zzkD => decide +kernel); (case zzc2 => exact rfl); (case zzc3 => exact rfl); (case zzc4 => exact rfl); k_whole; (first | (k_extra "EPSENT"; refine no_implicit_lambda% (all_eps5 (i := by k_extra "NE9") ?_); generalize pj0 _ = g', pj1 _ = L', pj2 _ = h', pj3 _ = tk', pj4 _ = cells'; intro FG' F' N' Y' B' X' T' l1) | intro g' L' h' tk' cells' FG' F' N' Y' B' X' T' l1); (try k_lt l1); k_cells Y'; (try simp only [List.cons_append, List.nil_append] at N'); (try dsimp only); (try k_lift B'); (try k_fold)))))
  (k_with "callWith ref" => ((k_here; k_dflt (first | (refine' callWith_K ?zzk1 ?zzk2 ?_; (case zzk1 => k_asm); (case zzk2 => k_is); k_whole) | (refine' callWith_KW ?zzk1 ?zzk2 ?zzk3 ?_; (case zzk1 => k_asm); (case zzk2 => k_is); (case zzk3 => exact rfl); k_whole)))))
  (k_with "call builtin:len" => ((k_here; (with_reducible show wpAny _ _ (call (Value.builtin "len") [Value.ref _]) _ _ _); k_dflt (refine' my_len ?zzk1 ?zzk2 ?zzk3 ?_; (case zzk1 => k_asm); (case zzk2 => k_mem); (case zzk3 => first | assumption | omega); k_whole))))
  (k_with "callWith ref" => ((k_here; k_dflt (refine' callWith_Fn1 ?zzkf ?_; (case zzkf => with_reducible assumption); k_whole))))
  (k_with "And" => (((with_reducible show IsFn _ _ ∧ _); refine ⟨KeyFn.get (by with_reducible assumption) (by k_in) (by k_asm), ?_⟩; try dsimp only [List.nil_append, List.cons_append])))
  (k_with "SAME" => (first | exact Same.refl _ _ | (intros z h9; (simp only [List.contains_cons, List.contains_nil, Bool.or_false, Bool.or_eq_false_iff, beq_eq_false_iff_ne, ne_eq] at h9); simp [h9])))
  (k_with "CompEnd" => ((k_dflt (refine' compEnd_same ?zzF ?zzN ?zzoff ?zzsrc ?_; (case zzF => k_asm); (case zzN => k_asm); (case zzoff => first | assumption | ((simp only [LCg.Off3, and_true]); first | done | assumption)); (case zzsrc => lcg_src)))))
  exact True.intro
abbrev cutS : List Str := ["at", "size", "found"]
section
variable {prog : Program} {w : World} {A : Around} {E : Value → Shared → Prop} {s : Shared} {h₀ : Heap} {L : Addr} {m : Str → Option Value} {k : Str} {t : Tok} {Q : Value → Shared → Prop}
theorem in_et (F : Fr h₀ L s.heap m) (X : (hd.heap_39 w.params).In h₀) (h : Q (.bool (etFind k).isSome) { s with toks := s.toks + 1 }) : wpAny (model prog w) A (compareOp .In (.str k t) (.ref 121)) Q E s :=
  wpAny_in_of (strKind_is prog w k t) (by decide) (et_map fun a o e => F.keep a o (X a o e)) h
theorem item_et {value slice : PySem.Expr} {v : Value} (F : Fr h₀ L s.heap m) (X : (hd.heap_39 w.params).In h₀) (hv : Sealed (etFind k = some v)) (h : Q v { s with toks := s.toks + 1 })
    (hs : subscripted slice false (.ref 121) (.str k t) = operate [.ref 121, .str k t] (getItem (.ref 121) (.str k t)) := by with_unfolding_all rfl) (hg : ∀ r, letTemporaryGo value (.ref 121) r = pure () := by intro _; with_unfolding_all rfl) :
    wpAny (model prog w) A (subscriptTail value slice (.ref 121) (.str k t)) Q E s :=
  have hM : s.heap.MapOf (strKind prog w) 121 etFind := et_map fun a o e => F.keep a o (X a o e)
  subscriptTail_builtin hM.typeIs slot_dict_getitem.lookup (wpAny_getItem_of (strKind_is prog w k t) hM hv.eq h) hs hg
end
theorem c_contains {prog : Program} {w : World} {loose : List Str} {mean : ExcName → Option Value} {mg mb : Str → Option Value}
    {dp un : Nat} {gd : Option (List Code)} {cn : Str} {cs : Scope} {a : Addr} {ccd : Value} {cl : List (Str × Addr)} {outer : List Env} {A₀ : Around} {base h₀ : Heap} {L : Addr} {m : Str → Option Value} {s : Shared} {Q E : Value → Shared → Prop} {news : List (Addr × Obj)}
    {k : Str} {t : Tok}
    (B : Below A₀ base outer h₀) (F : Fr h₀ L s.heap m) (X : (hd.heap_39 w.params).In h₀) (N : News h₀ L s.heap news) (T : Top topProg loose mean mg mb h₀) (hk : cs.kind = .function)
    (hdp : dp + 2 < recursionLimit) (hun : un + 16 < cLine)
    (hret : ∀ h' tk', Fr h₀ L h' m → News h₀ L h' news → Q (.bool (etFind k).isSome) { s with heap := h', toks := tk' }) :
    wpAny (model prog w) (ktrTop dp un gd cn cs L a ccd cl outer) (call (.ref 106) [.ref 121, .str k t]) Q E s := by
  (k_with "compareOp In str ref" => (k_dflt (refine' in_et ?F ?X ?_; (case F => k_asm); (case X => k_asm))))
  walk_at "ENTER"
  k_steps
  exact hret _ _ (by assumption) (by assumption)
theorem c_getet {prog : Program} {w : World} {loose : List Str} {mean : ExcName → Option Value} {mg mb : Str → Option Value}
    {dp un : Nat} {gd : Option (List Code)} {cn : Str} {cs : Scope} {a : Addr} {ccd : Value} {cl : List (Str × Addr)} {outer : List Env} {A₀ : Around} {base h₀ : Heap} {L : Addr} {m : Str → Option Value} {s : Shared} {Q E : Value → Shared → Prop} {news : List (Addr × Obj)}
    {k : Str} {t : Tok} {v : Value}
    (B : Below A₀ base outer h₀) (F : Fr h₀ L s.heap m) (X : (hd.heap_39 w.params).In h₀) (N : News h₀ L s.heap news) (T : Top topProg loose mean mg mb h₀) (hk : cs.kind = .function)
    (hdp : dp + 2 < recursionLimit) (hun : un + 16 < cLine) (hv : Sealed (etFind k = some v))
    (hret : ∀ h' tk', Fr h₀ L h' m → News h₀ L h' news → Q v { s with heap := h', toks := tk' }) :
    wpAny (model prog w) (ktrTop dp un gd cn cs L a ccd cl outer) (call (.ref 113) [.ref 121, .str k t]) Q E s := by
  (k_with "subscriptTail Name Name ref str" => (k_dflt (refine' item_et ?F ?X hv ?_; (case F => k_asm); (case X => k_asm))))
  walk_at "ENTER"
  k_steps
  exact hret _ _ (by assumption) (by assumption)
/-- what stands between the turns of the cut -/
def CutJ (T : List Nat) (nums : List Int) (nl : Addr) (m : Str → Option Value) (news : List (Addr × Obj)) (n _tk : Nat) (m' : Str → Option Value) (nx : List (Addr × Obj)) : Prop :=
  ∃ (p : Nat) (r acc : List Int) (av : List Value) (kn : Nat) (pt : Tok), Cuts T p r ∧ n = T.length - p ∧ Same cutS m m' ∧ m' "at" = some (.int (p : Int) pt) ∧ nx = (nl, listOf av.toArray kn) :: news ∧ IntsAre av acc ∧ acc ++ r = nums
theorem frame_c {m₀ m' : Str → Option Value} {v1 : Value} (h : Same cutS m₀ m') (h1 : m' "at" = some v1) : m' = fun y : Str => if y = "at" then some v1 else if cutS.contains y then m' y else m₀ y := by
  funext y
  by_cases e1 : y = "at"
  · rw [if_pos e1, e1, h1]
  · rw [if_neg e1]
    cases e : cutS.contains y with
    | true => simp
    | false => simp [h y e]
theorem cut_while {prog : Program} {w : World} {A : Around} {E : Value → Shared → Prop} {Q : Flow → Shared → Prop} {s : Shared} {env : Env} {h₀ : Heap} {L nl : Addr} {test : PySem.Expr} {body : List Stmt} {pos : Pos} {m : Str → Option Value} {news : List (Addr × Obj)} {T : List Nat} {nums : List Int} {k0 : Nat} {t0 : Tok}
    (F : Fr h₀ L s.heap m) (N : News h₀ L s.heap ((nl, listOf #[] k0) :: news)) (hat : m "at" = some (.int 0 t0)) (hC : Cuts T 0 nums)
    (turn : ∀ (p k : Nat) (o : Option Value) (x r acc : List Int) (tk : Nat) (z : Str → Option Value) (h : Heap) (av : List Value) (kn : Nat) (pt : Tok), 1 ≤ k → k ≤ 3 → p + k ≤ T.length → (∀ k', k < k' → k' ≤ 3 → p + k' ≤ T.length → etFind (piece T p k') = none) → Sealed (etFind (piece T p k) = o) → Adds o x → (o = none → k = 1) → Cuts T (p + k) r → IntsAre av acc → Sealed (acc ++ (x ++ r) = nums) →
      Fr h₀ L h (fun y => if y = "at" then some (.int (p : Int) pt) else if cutS.contains y then z y else m y) → News h₀ L h ((nl, listOf av.toArray kn) :: news) →
      wpAny (model prog w) A (isTrue test env (eval test env)) (fun b s₂ => if b = true then wpAny (model prog w) A (execs body env) (WStep h₀ L s (CutJ T nums nl m news) (T.length - p) Q) E s₂ else Q .next s₂) E { s with heap := h, toks := tk })
    (fin : ∀ (tk : Nat) (z : Str → Option Value) (h : Heap) (av : List Value) (kn : Nat) (pt : Tok), IntsAre av nums →
      Fr h₀ L h (fun y => if y = "at" then some (.int (T.length : Int) pt) else if cutS.contains y then z y else m y) → News h₀ L h ((nl, listOf av.toArray kn) :: news) →
      wpAny (model prog w) A (isTrue test env (eval test env)) (fun b s₂ => if b = true then wpAny (model prog w) A (execs body env) (WStep h₀ L s (CutJ T nums nl m news) 0 Q) E s₂ else Q .next s₂) E { s with heap := h, toks := tk })
    (hE : PassesOwn (model prog w) A env E := by passes_own) : wpAny (model prog w) A (exec (.While test body [] pos) env) Q E s := by
  refine while_T (n := T.length) (CutJ T nums nl m news) F N ⟨0, nums, [], [], k0, t0, hC, rfl, Same.refl _ _, hat, rfl, .nil, rfl⟩ ?_ hE
  rintro n tk m₁ nx h ⟨p, r, acc, av, kn, pt, hc, rfl, hS, h1, rfl, x1, e1⟩ _ F₁ N₁
  rw [frame_c hS h1] at F₁
  cases hc with
  | done =>
    rw [List.append_nil] at e1
    rw [Nat.sub_self]
    exact fin tk m₁ h av kn pt (e1 ▸ x1) F₁ N₁
  | step _ k o x r h1 h3 hp hn ho hx hk hr => exact turn p k o x r acc tk m₁ h av kn pt h1 h3 hp hn ⟨ho⟩ hx hk hr x1 ⟨e1⟩ F₁ N₁
abbrev sizS : List Str := ["size", "found"]
/-- what stands between the turns of the search for a piece -/
def SizJ (T : List Nat) (p k : Nat) (m : Str → Option Value) (news : List (Addr × Obj)) (n _tk : Nat) (m' : Str → Option Value) (nx : List (Addr × Obj)) : Prop :=
  ∃ (k' : Nat) (st : Tok), n = k' ∧ k ≤ k' ∧ k' ≤ 3 ∧ p + k' ≤ T.length ∧ Same sizS m m' ∧ m' "size" = some (.int (k' : Int) st) ∧ m' "found" = some (.bool (etFind (piece T p k')).isSome) ∧ nx = news
theorem frame_z {m₀ m' : Str → Option Value} {v1 v2 : Value} (h : Same sizS m₀ m') (h1 : m' "size" = some v1) (h2 : m' "found" = some v2) : m' = fun y : Str => if y = "size" then some v1 else if y = "found" then some v2 else m₀ y := by
  funext y
  by_cases e1 : y = "size"
  · rw [if_pos e1, e1, h1]
  · rw [if_neg e1]
    by_cases e2 : y = "found"
    · rw [if_pos e2, e2, h2]
    · rw [if_neg e2, h y (by simp [sizS, e1, e2])]
theorem siz_while {prog : Program} {w : World} {A : Around} {E : Value → Shared → Prop} {Q : Flow → Shared → Prop} {s : Shared} {env : Env} {h₀ : Heap} {L : Addr} {test : PySem.Expr} {body : List Stmt} {pos : Pos} {m : Str → Option Value} {news : List (Addr × Obj)} {T : List Nat} {p k k1 : Nat} {z1 : Int} {o : Option Value} {b1 : Bool} {t1 : Tok}
    (F : Fr h₀ L s.heap m) (N : News h₀ L s.heap news) (hs : m "size" = some (.int z1 t1)) (hz1 : z1 = (k1 : Int)) (hf : m "found" = some (.bool b1)) (hb1 : b1 = (etFind (piece T p k1)).isSome) (hk1 : k ≤ k1) (h31 : k1 ≤ 3) (hp1 : p + k1 ≤ T.length)
    (hn : ∀ k', k < k' → k' ≤ 3 → p + k' ≤ T.length → etFind (piece T p k') = none) (ho : Sealed (etFind (piece T p k) = o))
    (turn : ∀ (k' : Nat) (st : Tok) (tk : Nat) (h : Heap), k < k' → k' ≤ 3 → p + k' ≤ T.length →
      Fr h₀ L h (fun y => if y = "size" then some (.int (k' : Int) st) else if y = "found" then some (.bool false) else m y) → News h₀ L h news →
      wpAny (model prog w) A (isTrue test env (eval test env)) (fun b s₂ => if b = true then wpAny (model prog w) A (execs body env) (WStep h₀ L s (SizJ T p k m news) k' Q) E s₂ else Q .next s₂) E { s with heap := h, toks := tk })
    (fin : ∀ (st : Tok) (tk : Nat) (h : Heap),
      Fr h₀ L h (fun y => if y = "size" then some (.int (k : Int) st) else if y = "found" then some (.bool o.isSome) else m y) → News h₀ L h news →
      wpAny (model prog w) A (isTrue test env (eval test env)) (fun b s₂ => if b = true then wpAny (model prog w) A (execs body env) (WStep h₀ L s (SizJ T p k m news) k Q) E s₂ else Q .next s₂) E { s with heap := h, toks := tk })
    (hE : PassesOwn (model prog w) A env E := by passes_own) : wpAny (model prog w) A (exec (.While test body [] pos) env) Q E s := by
  refine while_T (n := k1) (SizJ T p k m news) F N ⟨k1, t1, rfl, hk1, h31, hp1, Same.refl _ _, by rw [hs, hz1], by rw [hf, hb1], rfl⟩ ?_ hE
  rintro n tk m₁ nx h ⟨k', st, rfl, a1, a2, a3, hS, e1, e2, rfl⟩ _ F₁ N₁
  rw [frame_z hS e1 e2] at F₁
  rcases Nat.lt_or_eq_of_le a1 with hlt | rfl
  · rw [hn _ hlt a2 a3] at F₁
    exact turn _ st tk h hlt a2 a3 F₁ N₁
  · rw [ho.eq] at F₁
    exact fin st tk h F₁ N₁
theorem cut_room {av : List Value} {acc x r nums : List Int} (y : IntsAre av acc) (ce : Sealed (acc ++ (x ++ r) = nums)) (h : nums.length < 100) : av.length < 100 := by
  have e := congrArg List.length ce.eq
  rw [List.length_append] at e
  rw [y.length]
  omega
theorem cut_end {h₀ h' : Heap} {L nl : Addr} {s : Shared} {T : List Nat} {nums r acc : List Int} {m m' : Str → Option Value} {news : List (Addr × Obj)} {p k kn tk : Nat} {pt : Tok} {av : List Value} {Q : Flow → Shared → Prop}
    (F : Fr h₀ L h' m') (N : News h₀ L h' ((nl, listOf av.toArray kn) :: news)) (hS : Same cutS m m') (hat : m' "at" = some (.int ((p : Int) + (k : Int)) pt)) (hk : 1 ≤ k) (hp : p + k ≤ T.length) (cr : Cuts T (p + k) r) (y : IntsAre av acc) (ce : acc ++ r = nums) :
    WStep h₀ L s (CutJ T nums nl m news) (T.length - p) Q .next { s with heap := h', toks := tk } :=
  ⟨h', tk, m', _, T.length - (p + k), rfl, F, N, by omega, p + k, r, acc, av, kn, pt, cr, rfl, hS, by rw [hat]; push_cast; rfl, rfl, y, ce⟩
theorem siz_end {h₀ h' : Heap} {L : Addr} {s : Shared} {T : List Nat} {m m' : Str → Option Value} {news : List (Addr × Obj)} {p k k' tk : Nat} {st : Tok} {b : Bool} {Q : Flow → Shared → Prop}
    (F : Fr h₀ L h' m') (N : News h₀ L h' news) (hS : Same sizS m m') (hs : m' "size" = some (.int ((k' : Int) - 1) st)) (hf : m' "found" = some (.bool b)) (hk : k < k') (h3 : k' ≤ 3) (hp : p + k' ≤ T.length) (hb : b = (etFind (piece T p (k' - 1))).isSome) :
    WStep h₀ L s (SizJ T p k m news) k' Q .next { s with heap := h', toks := tk } :=
  ⟨h', tk, m', news, k' - 1, rfl, F, N, by omega, k' - 1, st, rfl, by omega, by omega, by omega, hS, by rw [hs, show (k' : Int) - 1 = ((k' - 1 : Nat) : Int) by omega], by rw [hf, hb], rfl⟩
theorem cut_less {x : Str} {p k : Nat} (c1 : 1 < k) (cp : p + k ≤ x.length) : (etFind (Txt.slice x (some (p : Int)) (some ((p : Int) + ((k : Int) - 1))))).isSome = (etFind (piece x.cps.toList p (k - 1))).isSome := by
  rw [show (k : Int) - 1 = ((k - 1 : Nat) : Int) by omega, slice_piece x (by omega)]
theorem cut_first {x : Str} {p k : Nat} (c1 : 1 ≤ k) (cp : p + k ≤ x.length) : (if (x.length : Int) - (p : Int) < 3 then (x.length : Int) - (p : Int) else 3) = ((min 3 (x.length - p) : Nat) : Int) := by
  split <;> omega
theorem cut_found {x : Str} {p k : Nat} (c1 : 1 ≤ k) (cp : p + k ≤ x.length) : (etFind (Txt.slice x (some (p : Int)) (some ((p : Int) + if (x.length : Int) - (p : Int) < 3 then (x.length : Int) - (p : Int) else 3)))).isSome = (etFind (piece x.cps.toList p (min 3 (x.length - p)))).isSome := by
  rw [cut_first c1 cp, slice_piece x (by omega)]
theorem words_cut_1 : True := by
  (k_with "k_all" => (with_reducible assumption))
  exact True.intro
theorem c_cut {prog : Program} {w : World} {loose : List Str} {mean : ExcName → Option Value} {mg mb : Str → Option Value}
    {dp un : Nat} {gd : Option (List Code)} {cn : Str} {cs : Scope} {a : Addr} {ccd : Value} {cl : List (Str × Addr)} {outer : List Env} {A₀ : Around} {base h₀ : Heap} {L : Addr} {m : Str → Option Value} {s : Shared} {Q E : Value → Shared → Prop} {news : List (Addr × Obj)}
    {x : Str} {xt : Tok} {nums : List Int}
    (B : Below A₀ base outer h₀) (F : Fr h₀ L s.heap m) (X : (hd.heap_39 w.params).In h₀) (N : News h₀ L s.heap news) (T : Top topProg loose mean mg mb h₀) (hk : cs.kind = .function)
    (hdp : dp + 10 < recursionLimit) (hun : un + 300 < cLine) (hC : Cuts x.cps.toList 0 nums) (hx : x.length ≤ 100) (hnl : nums.length < 100)
    (hret : ∀ r av c h' tk', Fr h₀ L h' m → News h₀ L h' ((r, listOf (List.toArray av) c) :: news) → (∀ p ∈ news, p.1 < r) → IntsAre av nums → Q (.ref r) { s with heap := h', toks := tk' }) :
    wpAny (model prog w) (ktrTop dp un gd cn cs L a ccd cl outer) (call (.ref 151) [.str x xt]) Q E s := by
  k_with_none
  k_with "EPSON" => skip
  k_with "NE9" => repeat (with_reducible first | exact neSh | exact neAr | exact neEx | exact neWo | refine neP ?_ ?_ | infer_instance)
  k_with "RangeRest" => first
    | ((with_unfolding_all refine RangeRest.succ ?_); intro t' h' tk' F' N')
    | ((with_unfolding_all refine RangeRest.zero ?_); intro h' tk' F' N')
  k_with "CompRest" => first
    | ((with_unfolding_all refine LCg.CompRest.succ ?_); (first | (k_extra "EPSON"; refine no_implicit_lambda% (all_eps10 (i := by k_extra "NE9") ?_); generalize pj0 _ = v', pj1 _ = I', pj2 _ = oI', pj3 _ = C', pj4 _ = oC', pj5 _ = D', pj6 _ = m', pj7 _ = h', pj8 _ = tk', pj9 _ = E'; intro hv' hC' hx' F' N' off' ne') | intro v' I' oI' C' oC' D' m' h' tk' E' hv' hC' hx' F' N' off' ne'); (first | lcg_open hv' | (refine ex_elim hv' ?_; clear hv'; intro t9' hv9'; subst hv9')); (try simp only [LCg.Off3, and_true] at off'))
    | with_unfolding_all refine LCg.CompRest.zero ?_
  k_with "EPS1" => (refine no_implicit_lambda% (all_eps (i := by k_extra "NE9") ?_); generalize eps _ _ = xE9)
  k_with "EPSCELLS" => first
    | (have hY := PyProof.Rows.CellsAre.one Y'; refine ex_elim hY ?_; clear hY; intro o' hE'; obtain ⟨hE', d1'⟩ := hE'; subst hE'; clear Y')
    | (have hY := PyProof.Rows.CellsAre.two Y'; refine ex_elim hY ?_; clear hY; intro o' hY; refine ex_elim hY ?_; clear hY; intro o2' hY; obtain ⟨hE', d1', d2'⟩ := hY; subst hE'; clear Y')
    | (have hY := PyProof.Rows.CellsAre.three Y'; refine ex_elim hY ?_; clear hY; intro o' hY; refine ex_elim hY ?_; clear hY; intro o2' hY; refine ex_elim hY ?_; clear hY; intro o3' hY; obtain ⟨hE', d1', d2', d3'⟩ := hY; subst hE'; clear Y')
  k_with "EPSENT" => skip
  revert B F X N T hk hdp hun hC hx hnl hret
  revert prog w loose mean mg mb dp un gd cn cs a ccd cl outer A₀ base h₀ L m s Q E news x xt nums
  refine no_implicit_lambda% (all_eps24 (i := by k_extra "NE9") ?_); generalize pj0 _ = prog, pj1 _ = w, pj2 _ = loose, pj3 _ = mean, pj4 _ = mg, pj5 _ = mb, pj6 _ = dp, pj7 _ = un, pj8 _ = gd, pj9 _ = cn, pj10 _ = cs, pj11 _ = a, pj12 _ = ccd, pj13 _ = cl, pj14 _ = outer, pj15 _ = A₀, pj16 _ = base, pj17 _ = h₀, pj18 _ = L, pj19 _ = m, pj20 _ = s, pj21 _ = Q, pj22 _ = E, pj23 _ = news; refine no_implicit_lambda% (all_eps3 (i := by k_extra "NE9") ?_); generalize pj0 _ = x, pj1 _ = xt, pj2 _ = nums
  intros B F X N T hk hdp hun hC hx hnl hret
  (k_with "CJ" => (with_reducible first | assumption | exact cj0 ‹_› | exact cj1 ‹_› | exact cl1 ‹_› | exact cj2 ‹_› | exact cl2 ‹_› | exact cj3 ‹_› | exact cl3 ‹_› | exact cj4 ‹_› | exact cl4 ‹_› | exact cj5 ‹_› | exact cl5 ‹_› | exact cj6 ‹_› | exact cl6 ‹_› | exact cj7 ‹_› | exact cl7 ‹_› | exact cj8 ‹_› | exact cl8 ‹_› | exact cj9 ‹_› | exact cl9 ‹_› | exact cj10 ‹_› | exact cl10 ‹_› | exact cj11 ‹_› | exact cl11 ‹_› | exact cj12 ‹_› | exact cl12 ‹_›))
  (k_with "k_ne" => (((refine neN ?_); (try dsimp only); first | exact Nat.ne_of_gt (by k_extra "CJ") | exact Nat.ne_of_lt (by k_extra "CJ") | k_extra "CJ" | exact Ne.symm (by k_extra "CJ"))))
  (k_with "ktr_room" => (first | exact rm0 ‹_› | exact rm1 ‹_› rfl | exact rm2 ‹_› rfl | exact rm3 ‹_› rfl))
  (k_with "ktr_units" => (first | exact rm0 ‹_› | exact rm1 ‹_› rfl | exact rm2 ‹_› rfl | exact rm3 ‹_› rfl))
  (k_with "k_mem" => (first | exact List.Mem.head _ | (refine' List.Mem.tail _ ?_; k_mem) | (show (_ : Addr × Obj) ∈ (_ : List (Addr × Obj)); with_reducible assumption)))
  (k_with "BINDS" => (first | exact BindsTo.of_eq rfl | exact binds_K (by k_in) rfl (by k_is) rfl rfl rfl | (refine' kp_binds ?zzkx ?zzke; (case zzkx => k_in); (case zzke => exact fun _ => rfl))))
  (k_with "ENTER" => ((refine wpAny_call ?_; first | k_dflt (refine' code_def ?zzk1 ?zzk2 ?zzk3 ?zzk4 ?zzk5 ?zzkA ?zzkF ?zzkK ?zzk6 ?zzk7 ?zzk8 ?zzk9 ?zzkB ?_ ?zzc2 ?zzc3 ?zzc4 ?zzc5; (case zzkA => exact rfl); (case zzkF => exact rfl); (case zzkK => assumption); (case zzk1 => k_asm); (case zzk2 => k_asm); (case zzk3 => k_asm); (case zzk4 => k_asm); (case zzk5 => k_asm); (case zzk6 => k_is); (case zzk7 => k_is); (case zzk8 => ktr_room); (case zzk9 => walk_at "BINDS"); (case zzc5 => decide); (case zzkB => exact locs rfl); (case zzc2 => exact rfl); (case zzc3 => exact rfl); (case zzc4 => exact rfl); k_whole; (first | (k_extra "EPSENT"; refine no_implicit_lambda% (all_eps3 (i := by k_extra "NE9") ?_); generalize pj0 _ = g', pj1 _ = L', pj2 _ = h'; intro FG' F' N' B' X' T') | intro g' L' h' FG' F' N' B' X' T'); (try dsimp only); (try k_lift B'); (try k_fold)) | k_dflt (refine' code_defC ?zzk1 ?zzk2 ?zzk3 ?zzk4 ?zzk5 ?zzkA ?zzkF ?zzkK ?zzk6 ?zzk7 ?zzk8 ?zzk9 ?zzkB ?zzkD ?_ ?zzc2 ?zzc3 ?zzc4; (case zzkA => exact rfl); (case zzkF => exact rfl); (case zzkK => assumption); (case zzk1 => k_asm); (case zzk2 => k_asm); (case zzk3 => k_asm); (case zzk4 => k_asm); (case zzk5 => k_asm); (case zzk6 => k_is); (case zzk7 => k_is); (case zzk8 => ktr_room); (case zzk9 => walk_at "BINDS"); (case zzkB => exact rfl); (case zzkD => decide +kernel); (case zzc2 => exact rfl); (case zzc3 => exact rfl); (case zzc4 => exact rfl); k_whole; (first | (k_extra "EPSENT"; refine no_implicit_lambda% (all_eps5 (i := by k_extra "NE9") ?_); generalize pj0 _ = g', pj1 _ = L', pj2 _ = h', pj3 _ = tk', pj4 _ = cells'; intro FG' F' N' Y' B' X' T' l1) | intro g' L' h' tk' cells' FG' F' N' Y' B' X' T' l1); (try k_lt l1); k_cells Y'; (try simp only [List.cons_append, List.nil_append] at N'); (try dsimp only); (try k_lift B'); (try k_fold)))))
  (k_with "callWith ref" => ((k_here; k_dflt (first | (refine' callWith_K ?zzk1 ?zzk2 ?_; (case zzk1 => k_asm); (case zzk2 => k_is); k_whole) | (refine' callWith_KW ?zzk1 ?zzk2 ?zzk3 ?_; (case zzk1 => k_asm); (case zzk2 => k_is); (case zzk3 => exact rfl); k_whole)))))
  (k_with "call builtin:len" => ((k_here; (with_reducible show wpAny _ _ (call (Value.builtin "len") [Value.ref _]) _ _ _); k_dflt (refine' my_len ?zzk1 ?zzk2 ?zzk3 ?_; (case zzk1 => k_asm); (case zzk2 => k_mem); (case zzk3 => first | assumption | omega); k_whole))))
  (k_with "callWith ref" => ((k_here; k_dflt (refine' callWith_Fn1 ?zzkf ?_; (case zzkf => with_reducible assumption); k_whole))))
  (k_with "And" => (((with_reducible show IsFn _ _ ∧ _); refine ⟨KeyFn.get (by with_reducible assumption) (by k_in) (by k_asm), ?_⟩; try dsimp only [List.nil_append, List.cons_append])))
  (k_with "SAME" => (first | exact Same.refl _ _ | (intros z h9; (simp only [List.contains_cons, List.contains_nil, Bool.or_false, Bool.or_eq_false_iff, beq_eq_false_iff_ne, ne_eq] at h9); simp [h9])))
  (k_with "CompEnd" => ((k_dflt (refine' compEnd_same ?zzF ?zzN ?zzoff ?zzsrc ?_; (case zzF => k_asm); (case zzN => k_asm); (case zzoff => first | assumption | ((simp only [LCg.Off3, and_true]); first | done | assumption)); (case zzsrc => lcg_src)))))
  (k_with "k_all" => (with_reducible assumption))
  have hl : x.cps.toList.length = x.length := Array.length_toList
  (k_with "exec While Compare cons nil" => ((rename Fr _ _ _ _ => lF'); (rename News _ _ _ _ => lN'); k_dflt (refine' cut_while lF' lN' ?kat hC ?turn ?fin; (case kat => exact rfl)); (case' turn => (clear lF' lN'; intro p9 k9 o9 x9 r9 acc9 tk9 z9 h9 av9 kn9 pt9 c1 c3 cp cn co cx ck cr y9 ce lF9 lN9; (rw [hl] at cp); (have hs9 : av9.length < 100 := cut_room y9 ce hnl); (try dsimp only); (try k_fold))); (case' fin => (clear lF' lN'; intro tk9 z9 h9 av9 kn9 pt9 y9 lF9 lN9; (try dsimp only); (try k_fold)))))
  (k_with "exec While BoolOp cons nil" => ((rename Fr _ _ _ _ => lG'); (rename News _ _ _ _ => lM'); k_dflt (refine' siz_while (p := p9) (k := k9) (k1 := min 3 (x.length - p9)) (T := x.cps.toList) lG' lM' ?ks ?kzz ?kf ?kb ?kk1 ?kk3 ?kkp cn co ?turnZ ?finZ; (case ks => exact rfl); (case kzz => exact cut_first c1 cp); (case kf => exact rfl); (case kb => exact cut_found c1 cp); (case kk1 => exact Nat.le_min.mpr ⟨c3, by omega⟩); (case kk3 => exact Nat.min_le_left _ _); (case kkp => (rw [hl]; omega))); (case' turnZ => (clear lG' lM'; intro k8 st8 tk8 h8 d1 d2 d3 lF8 lN8; (rw [hl] at d3); (have d4 : (1 : Int) < (k8 : Int) := by omega); (try dsimp only); (try k_fold))); (case' finZ => (clear lG' lM'; intro st8 tk8 h8 lF8 lN8; (have co' : Sealed (etFind (Txt.slice x (some (p9 : Int)) (some ((p9 : Int) + (k9 : Int)))) = o9) := ⟨by rw [slice_piece x cp]; exact co.eq⟩); (rcases cx with _ | ⟨i9, t9⟩); all_goals ((simp only [Option.isSome_none, Option.isSome_some] at lF8); (try (obtain rfl := ck rfl)); (try dsimp only); (try k_fold))))))
  (k_with "call ref" => (first
    | (k_dflt (refine' c_contains ?k1 ?k2 ?k3 ?k4 ?k5 ?kK ?kd ?ku ?_; (case k1 => k_asm); (case k2 => k_asm); (case k3 => k_asm); (case k4 => k_asm); (case k5 => k_asm); (case kK => exact rfl); (case kd => ktr_room); (case ku => ktr_units); k_whole); (first | (k_extra "EPSON"; refine no_implicit_lambda% (all_eps2 (i := by k_extra "NE9") ?_); generalize pj0 _ = h8, pj1 _ = tk8; intro F8 N8) | intro h8 tk8 F8 N8); (try dsimp only); (try k_fold))
    | (k_dflt (refine' c_getet ?k1 ?k2 ?k3 ?k4 ?k5 ?kK ?kd ?ku co' ?_; (case k1 => k_asm); (case k2 => k_asm); (case k3 => k_asm); (case k4 => k_asm); (case k5 => k_asm); (case kK => exact rfl); (case kd => ktr_room); (case ku => ktr_units); k_whole); (first | (k_extra "EPSON"; refine no_implicit_lambda% (all_eps2 (i := by k_extra "NE9") ?_); generalize pj0 _ = h8, pj1 _ = tk8; intro F8 N8) | intro h8 tk8 F8 N8); (try dsimp only); (try k_fold))))
  walk_at "ENTER"
  k_steps
  · exact hret _ _ _ _ _ (by assumption) (by assumption) (by assumption) y9
  · (rename Fr _ _ _ _ => lF8); (rename News _ _ _ _ => lN8)
    exact cut_end lF8 lN8 (by walk_at "SAME") rfl c1 (by rw [hl]; exact cp) cr y9 (by rw [← ce.eq]; rfl)
  · (rename Fr _ _ _ _ => lF8); (rename News _ _ _ _ => lN8)
    rw [List.push_toArray] at lN8
    exact cut_end lF8 lN8 (by walk_at "SAME") rfl c1 (by rw [hl]; exact cp) cr (y9.append (.cons _ _ .nil)) (by rw [← ce.eq, List.append_assoc])
  · (rename Fr _ _ _ _ => lF8); (rename News _ _ _ _ => lN8)
    rw [List.push_toArray] at lN8
    exact cut_end lF8 lN8 (by walk_at "SAME") rfl c1 (by rw [hl]; exact cp) cr (y9.append (.cons _ _ .nil)) (by rw [← ce.eq, List.append_assoc])
  · (rename Fr _ _ _ _ => lF8); (rename News _ _ _ _ => lN8)
    exact siz_end lF8 lN8 (by walk_at "SAME") rfl rfl d1 d2 (by rw [hl]; exact d3) (cut_less (by omega) d3)

end
section
theorem words_comptok : True := by
  k_with_none
  (k_with "CJ" => (with_reducible first | assumption | exact cj0 ‹_› | exact cj1 ‹_› | exact cl1 ‹_› | exact cj2 ‹_› | exact cl2 ‹_› | exact cj3 ‹_› | exact cl3 ‹_› | exact cj4 ‹_› | exact cl4 ‹_› | exact cj5 ‹_› | exact cl5 ‹_› | exact cj6 ‹_› | exact cl6 ‹_› | exact cj7 ‹_› | exact cl7 ‹_› | exact cj8 ‹_› | exact cl8 ‹_› | exact cj9 ‹_› | exact cl9 ‹_› | exact cj10 ‹_› | exact cl10 ‹_› | exact cj11 ‹_› | exact cl11 ‹_› | exact cj12 ‹_› | exact cl12 ‹_›))
  (k_with "k_ne" => (((refine neN ?_); (try dsimp only); first | exact Nat.ne_of_gt (by k_extra "CJ") | exact Nat.ne_of_lt (by k_extra "CJ") | k_extra "CJ" | exact Ne.symm (by k_extra "CJ"))))
  (k_with "ktr_room" => (first | exact rm0 ‹_› | exact rm1 ‹_› rfl | exact rm2 ‹_› rfl | exact rm3 ‹_› rfl))
  (k_with "ktr_units" => (first | exact rm0 ‹_› | exact rm1 ‹_› rfl | exact rm2 ‹_› rfl | exact rm3 ‹_› rfl))
  (k_with "k_mem" => (first | exact List.Mem.head _ | (refine' List.Mem.tail _ ?_; k_mem) | (show (_ : Addr × Obj) ∈ (_ : List (Addr × Obj)); with_reducible assumption)))
  (k_with "callWith ref" => ((k_here; k_dflt (first | (refine' callWith_K ?zzk1 ?zzk2 ?_; (case zzk1 => k_asm); (case zzk2 => k_is); k_whole) | (refine' callWith_KW ?zzk1 ?zzk2 ?zzk3 ?_; (case zzk1 => k_asm); (case zzk2 => k_is); (case zzk3 => exact rfl); k_whole)))))
  (k_with "call builtin:len" => ((k_here; (with_reducible show wpAny _ _ (call (Value.builtin "len") [Value.ref _]) _ _ _); k_dflt (refine' my_len ?zzk1 ?zzk2 ?zzk3 ?_; (case zzk1 => k_asm); (case zzk2 => k_mem); (case zzk3 => first | assumption | omega); k_whole))))
  (k_with "callWith ref" => ((k_here; k_dflt (refine' callWith_Fn1 ?zzkf ?_; (case zzkf => with_reducible assumption); k_whole))))
  (k_with "And" => (((with_reducible show IsFn _ _ ∧ _); refine ⟨KeyFn.get (by with_reducible assumption) (by k_in) (by k_asm), ?_⟩; try dsimp only [List.nil_append, List.cons_append])))
  (k_with "CompEnd" => ((k_dflt (refine' compEnd_same ?zzF ?zzN ?zzoff ?zzsrc ?_; (case zzF => k_asm); (case zzN => k_asm); (case zzoff => first | assumption | ((simp only [LCg.Off3, and_true]); first | done | assumption)); (case zzsrc => lcg_src)))))
  exact True.intro
section
variable {prog : Program} {w : World} {A : Around} {E : Value → Shared → Prop} {s : Shared} {h₀ : Heap} {L : Addr} {m : Str → Option Value} {env : Env}
/-- a comprehension's turns over a range, with what the counter tells -/
structure TokTurns (prog : Program) (w : World) (A : Around) (h₀ : Heap) (L : Addr) (m : Str → Option Value) (env : Env) (elt : PySem.Expr) (x : Str) (scope : Scope) (cl : List (Str × Addr)) (s : Shared) (n : Nat) (J : Nat → Nat → List Value → Prop) (news : List (Addr × Obj)) : Prop where
  turn : ∀ (i : Nat) (ys : List Value) (tk t : Nat) I oI C oC D m₂ h (E' : Value → Shared → Prop), i < n → J i tk ys → LCg.NsObj oC m₂ → m₂ x = some (.int (0 + (i : Int)) t) → Fr h₀ L h m → News h₀ L h ((I, oI) :: (C, oC) :: (D, LCg.lst ys) :: news) → LCg.Off3 I C D news → ((@Ne Nat I C) ∧ (@Ne Nat I D) ∧ (@Ne Nat C D)) →
    wpAny (model prog w) A (eval elt (compEnvC scope cl C env)) (fun y s₂ => ∃ h' tk', s₂ = { s with heap := h', toks := tk' } ∧ Fr h₀ L h' m ∧ News h₀ L h' ((I, oI) :: (C, oC) :: (D, LCg.lst ys) :: news) ∧ (tk ≤ tk' → J (i + 1) tk' (ys ++ [y]))) E' { s with heap := h, toks := tk }
  mono : ∀ i tk tk' ys, J i tk ys → tk ≤ tk' → J i tk' ys
theorem tok_block {elt iter : PySem.Expr} {x : Str} {px : Pos} {scope : Scope} {cl : List (Str × Addr)} {pos : Pos} {I : Addr} {n : Nat} {J : Nat → Nat → List Value → Prop} {news : List (Addr × Obj)} {RR : Value → Addr → Result → Shared → Prop}
    (hh : A.handled = none) (hsz : n ≤ sizeLine) (hcell : ∀ y ∈ scope.names, y.2 ≠ .cell) (hkind : scope.kind = .function) (hx : scope.names.lookup x = some .local) (hst : IsRangeIter s.heap I ((0 : Int) + ((0 : Nat) : Nat) * 1) ((n : Int) - ((0 : Nat) : Nat)) 1) (hIs : I < s.heap.objs.size)
    (F : Fr h₀ L s.heap m) (N : News h₀ L s.heap news) (hIL : L ≠ I) (hI₀ : h₀.get? I = none) (off : ∀ p ∈ news, p.1 ≠ I) (h0 : J 0 s.toks [])
    (R : TokTurns prog w A h₀ L m env elt x scope cl s n J news)
    (hRR : ∀ D C h tk m' ys, Fr h₀ L h m → News h₀ L h ((D, LCg.lst ys) :: news) → LCg.Off1 D news → h.Ns C m' → h₀.get? C = none → C ≠ L → C ≠ D → (∀ p ∈ news, p.1 ≠ C) → J n tk ys → RR (.ref D) C (.ok .next) { s with heap := h, toks := tk }) :
    wpAny (model prog w) A (newList []) (fun acc s₃ => wpAny (model prog w) A (newFunctionEnv scope env.globals cl [] env.qual none .none (some env)) (fun cenv s₄ =>
      codeAny (model prog w) A (.compStart (.ListComp elt [⟨.Name x px, iter, [], 0⟩] scope pos) 0 (.ref I) acc { cenv with scope := relabel scope env }) (RR acc cenv.locals) s₄) E s₃) E s := by
  refine wpAny_newObj_type (wpAny_newFunctionEnv hcell (by intro y hy; simp at hy) (fun h₁ hns₁ hsb₁ => ?_) hkind)
  dsimp only at hns₁ hsb₁ ⊢
  generalize hH2 : s.heap.push { cls := .type "list", dict := none, data := .seq ([] : List Value).toArray } = H2 at hns₁ hsb₁ ⊢
  have hC : H2.objs.size = s.heap.objs.size + 1 := by rw [← hH2, Heap.size_push]
  have hDC : s.heap.objs.size ≠ H2.objs.size := by rw [hC]; exact Nat.ne_of_lt (Nat.lt_succ_self _)
  have below : ∀ b, b < s.heap.objs.size → b ≠ H2.objs.size ∧ b ≠ s.heap.objs.size := fun b hb => ⟨by rw [hC]; exact Nat.ne_of_lt (Nat.lt_succ_of_lt hb), Nat.ne_of_lt hb⟩
  have old : ∀ b o, s.heap.get? b = some o → h₁.get? b = some o := fun b o e => hsb₁.extBut b o (below b (Heap.lt_size e)).1 (Heap.get?_push_of_some _ (hH2 ▸ Heap.get?_push_of_some _ e))
  have hacc : h₁.get? s.heap.objs.size = some (LCg.lst []) := hsb₁.extBut _ _ hDC (Heap.get?_push_of_some _ (hH2 ▸ Heap.get?_push_size _ rfl))
  have W := LCg.range_walks (prog := prog) (w := w) (A := A) (I := I) hh 0 n
  have fresh₀ : ∀ a, s.heap.objs.size ≤ a → h₀.get? a = none := fun a ha => by
    cases e : h₀.get? a with
    | none => rfl
    | some o' => exact absurd (Heap.lt_size (F.keep a o' e)) (Nat.not_lt.mpr ha)
  have hD₀ : h₀.get? s.heap.objs.size = none := fresh₀ _ (Nat.le_refl _)
  have hC₀ : h₀.get? H2.objs.size = none := fresh₀ _ (by rw [hC]; exact Nat.le_succ _)
  have hLlt : L < s.heap.objs.size := F.ns.lt
  have hDL : s.heap.objs.size ≠ L := Ne.symm (below L hLlt).2
  have hCL : H2.objs.size ≠ L := Ne.symm (below L hLlt).1
  have hCI : I ≠ H2.objs.size := (below I hIs).1
  have hDI : I ≠ s.heap.objs.size := (below I hIs).2
  have offD : ∀ p ∈ news, p.1 ≠ s.heap.objs.size := fun p hp => (below _ (Heap.lt_size (N p hp).1)).2
  have offC : ∀ p ∈ news, p.1 ≠ H2.objs.size := fun p hp => (below _ (Heap.lt_size (N p hp).1)).1
  have off3 : LCg.Off3 I H2.objs.size s.heap.objs.size news := LCg.Off3.of fun p hp => ⟨off p hp, offC p hp, offD p hp⟩
  have loop : ∀ s₃ : Shared, s₃ = { s with heap := h₁, toks := s.toks + ([] : List (Str × Value)).length } →
      codeAny (model prog w) A (.compLoop (.ListComp elt [⟨.Name x px, iter, [], 0⟩] scope pos) 0 (.ref I) (.ref s.heap.objs.size) (compEnvC scope cl H2.objs.size env)) (RR (.ref s.heap.objs.size) H2.objs.size) s₃ := by
    rintro s₃ rfl
    refine codeAny_compLoop_tests
      (fun k s' => ∃ h' tk i ys m', s' = { s with heap := h', toks := tk } ∧ i ≤ n ∧ k = n + 1 - i ∧ ys.length = i ∧ IsRangeIter h' I ((0 : Int) + (i : Nat) * 1) ((n : Int) - (i : Nat)) 1 ∧ Fr h₀ L h' m ∧ h'.Ns H2.objs.size m' ∧ News h₀ L h' ((s.heap.objs.size, LCg.lst ys) :: news) ∧ J i tk ys) ?_ (n + 1)
      ⟨h₁, _, 0, [], _, rfl, Nat.zero_le _, rfl, rfl, W.frame _ _ _ hst fun b _ o e => old b o e, F.keeps old, hns₁, fun p hp => ?_, R.mono _ _ _ _ h0 (Nat.le_add_right _ _)⟩
    · rintro k s' ⟨h', tk, i, ys, m', rfl, hi, rfl, hyl, hst', F', hn', N', hJ⟩
      by_cases hlt : i < n
      · refine wpAny_grow (W.item i _ _ _ hlt hst' fun v h₂ tk₂ hPv hst₂ hk₂ hg => ?_)
        dsimp only at hg ⊢
        obtain ⟨t, rfl⟩ := hPv
        refine wpAny_assign_Name (wpAny_storeName_local (lookup_relabel_local hx) (hn'.at' fun o e => hk₂ _ o (by simpa using Ne.symm hCI) e) (fun h₃ hn₃ hs₃ => ?_) (by simp [compEnvC, relabel, hkind]))
        refine wpAny_tests_nil ?_
        simp only [if_true]
        have hst₃ : IsRangeIter h₃ I ((0 : Int) + ((i + 1 : Nat) : Nat) * 1) ((n : Int) - ((i + 1 : Nat) : Nat)) 1 := W.frame _ _ _ hst₂ fun b hb o e => hs₃.extBut b o (fun q => by have q' : b = H2.objs.size := q; rw [List.mem_singleton.mp hb] at q'; exact hCI q') e
        have heI : ∃ oI, h₃.get? I = some oI := ⟨_, hst₃⟩
        obtain ⟨oI, heI⟩ := heI
        obtain ⟨oC, heC, hoC⟩ := LCg.ns_obj hn₃
        have F₃ : Fr h₀ L h₃ m := (LCg.fr_but F' hk₂ hIL hI₀).change hs₃ hCL hC₀
        have N₂ : News h₀ L h₂ ((s.heap.objs.size, LCg.lst ys) :: news) := LCg.news_but N' hk₂ fun p hp => by
          rcases List.mem_cons.mp hp with rfl | hp
          · exact Ne.symm hDI
          · exact off p hp
        have N₃ : News h₀ L h₃ ((I, oI) :: (H2.objs.size, oC) :: (s.heap.objs.size, LCg.lst ys) :: news) := fun p hp => by
          rcases List.mem_cons.mp hp with rfl | hp
          · exact ⟨heI, Ne.symm hIL, hI₀⟩
          · rcases List.mem_cons.mp hp with rfl | hp
            · exact ⟨heC, hCL, hC₀⟩
            · have z := N₂ p hp
              refine ⟨hs₃.extBut _ _ ?_ z.1, z.2⟩
              rcases List.mem_cons.mp hp with rfl | hp
              · exact hDC
              · exact offC p hp
        refine wpAny_grow (wpAny_mono (R.turn i ys _ t I oI H2.objs.size oC s.heap.objs.size _ h₃ _ hlt (R.mono _ _ _ _ hJ (Nat.le_succ_of_le hg)) hoC (by simp) F₃ N₃ off3 ⟨hCI, hDI, Ne.symm hDC⟩) (fun y s₄ h₄ hg₂ => ?_) fun _ _ e => e)
        obtain ⟨h₄, tk₄, rfl, F₄, N₄, hJ₄⟩ := h₄
        have hJ₄ := hJ₄ hg₂
        have zI := (N₄ (I, oI) (.head _)).1
        have zC := (N₄ (H2.objs.size, oC) (.tail _ (.head _))).1
        have zD := (N₄ (s.heap.objs.size, LCg.lst ys) (.tail _ (.tail _ (.head _)))).1
        have hst₄ : IsRangeIter h₄ I ((0 : Int) + ((i + 1 : Nat) : Nat) * 1) ((n : Int) - ((i + 1 : Nat) : Nat)) 1 := by
          have st' : h₃.get? I = some _ := hst₃
          show h₄.get? I = some _
          rw [zI, ← heI]; exact st'
        refine append_at (hsz := by show ys.toArray.size ≤ sizeLine; rw [List.size_toArray, hyl]; exact Nat.le_trans hi hsz) zD fun h₅ hs₅ hD₅ => ?_
        refine ⟨n + 1 - (i + 1), by omega, h₅, tk₄, i + 1, ys ++ [y], _, rfl, hlt, rfl, by rw [List.length_append, List.length_singleton, hyl], W.frame _ _ _ hst₄ fun b hb o e => hs₅.extBut b o (fun q => by rw [List.mem_singleton.mp hb] at q; exact hDI q) e, F₄.change hs₅ hDL hD₀,
          (hoC.ns zC).sameBut hs₅ (Ne.symm hDC), fun p hp => ?_, hJ₄⟩
        rcases List.mem_cons.mp hp with rfl | hp
        · exact ⟨hD₅.trans (congrArg some (LCg.lst_snoc ys y)), hDL, hD₀⟩
        · exact ⟨hs₅.extBut _ _ (offD p hp) (N₄ p (.tail _ (.tail _ (.tail _ hp)))).1, (N₄ p (.tail _ (.tail _ (.tail _ hp)))).2⟩
      · obtain rfl : i = n := Nat.le_antisymm hi (Nat.not_lt.mp hlt)
        refine wpAny_grow (W.done _ _ _ hst' fun h₂ tk₂ hk₂ hg => ?_)
        exact hRR _ _ h₂ tk₂ _ ys (LCg.fr_but F' hk₂ hIL hI₀) (LCg.news_but N' hk₂ fun p hp => by
          rcases List.mem_cons.mp hp with rfl | hp
          · exact Ne.symm hDI
          · exact off p hp) off3.one (hn'.at' fun o e => hk₂ _ o (by simpa using Ne.symm hCI) e) hC₀ hCL (Ne.symm hDC) offC (R.mono _ _ _ _ hJ hg)
    · rcases List.mem_cons.mp hp with rfl | hp
      · exact ⟨hacc, hDL, hD₀⟩
      · exact ⟨old _ _ (N p hp).1, (N p hp).2⟩
  exact codeAny_compStart_list (loop _ rfl) (W.self 0 _ _ _ (W.frame _ _ _ hst fun b _ o e => old b o e) (loop _ rfl))
/-- where the source is a range -/
def TokSrc (prog : Program) (w : World) (A : Around) (h₀ : Heap) (L : Addr) (m : Str → Option Value) (env : Env) (elt : PySem.Expr) (x : Str) (scope : Scope) (cl : List (Str × Addr)) (Q : Value → Shared → Prop) (xv : Value) (s₁ : Shared) : Prop :=
  ∃ (r : Addr) (t u v : Tok) (n : Nat) (news : List (Addr × Obj)) (J : Nat → Nat → List Value → Prop), xv = .ref r ∧ A.handled = none ∧ Fr h₀ L s₁.heap m ∧ News h₀ L s₁.heap news ∧ IsRange s₁.heap r 0 (n : Int) 1 t u v ∧ Builtin.Range.small 0 (n : Int) 1 = true ∧ n ≤ sizeLine ∧ J 0 s₁.toks [] ∧
    (∀ g, TokTurns prog w A h₀ L m env elt x scope cl { s₁ with heap := g } n J news) ∧ ∀ D h tk ys, Fr h₀ L h m → News h₀ L h ((D, LCg.lst ys) :: news) → LCg.Off1 D news → J n tk ys → Q (.ref D) { s₁ with heap := h, toks := tk }
theorem TokSrc.intro {elt : PySem.Expr} {x : Str} {scope : Scope} {cl : List (Str × Addr)} {Q : Value → Shared → Prop} {r : Addr} {s₁ : Shared} {t u v : Tok} {n : Nat} {news : List (Addr × Obj)} (J : Nat → Nat → List Value → Prop) {b : Int}
    (hh : A.handled = none) (F : Fr h₀ L s₁.heap m) (N : News h₀ L s₁.heap news) (hr : IsRange s₁.heap r 0 b 1 t u v) (hb : b = (n : Int)) (hs : Builtin.Range.small 0 (n : Int) 1 = true) (hz : n ≤ sizeLine) (h0 : J 0 s₁.toks [])
    (R : ∀ g, TokTurns prog w A h₀ L m env elt x scope cl { s₁ with heap := g } n J news) (fin : ∀ D h tk ys, Fr h₀ L h m → News h₀ L h ((D, LCg.lst ys) :: news) → LCg.Off1 D news → J n tk ys → Q (.ref D) { s₁ with heap := h, toks := tk }) : TokSrc prog w A h₀ L m env elt x scope cl Q (.ref r) s₁ := by
  subst hb
  exact ⟨r, t, u, v, n, news, J, rfl, hh, F, N, hr, hs, hz, h0, R, fin⟩
theorem ListComp_tok {elt iter : PySem.Expr} {x : Str} {px : Pos} {scope : Scope} {cl : List (Str × Addr)} {pos : Pos} {Q : Value → Shared → Prop}
    (hclos : closureFor scope env = pure cl) (hcell : ∀ y ∈ scope.names, y.2 ≠ .cell) (hkind : scope.kind = .function)
    (hnames : ∀ y ∈ scope.names, y.2 = .local → scope.names.lookup y.1 = some .local) (hx : scope.names.lookup x = some .local)
    (h : wpAny (model prog w) A (eval iter env) (TokSrc prog w A h₀ L m env elt x scope cl Q) E s)
    (hs : ∀ x, foldedSetIterable iter env x = pure x := by intro _; rfl) :
    wpAny (model prog w) A (eval (.ListComp elt [⟨.Name x px, iter, [], 0⟩] scope pos) env) Q E s := by
  rw [eval_ListComp]
  refine wpAny_comprehension_free (use := none) rfl hs hclos hkind hnames (wpAny_mono h (fun xv s₁ h₁ => ?_) fun _ _ e => e)
  obtain ⟨r, t, u, v, n, news, J, rfl, hh, F, N, hr, hsm, hsz, h0, R, fin⟩ := h₁
  refine wpAny_pyIter_range hr hsm ?_
  have e0 : Builtin.Range.rangeSize 0 (n : Int) 1 = (n : Int) := by
    rw [rangeSize_one]
    split <;> omega
  refine tok_block (s := { s₁ with heap := s₁.heap.push _ }) (J := J) (I := s₁.heap.objs.size) hh hsz hcell hkind hx (by show IsRangeIter _ _ _ _ _; rw [e0]; simpa using Heap.get?_push_size _ rfl) (by show s₁.heap.objs.size < (s₁.heap.push _).objs.size; rw [Heap.size_push]; exact Nat.lt_succ_self _)
    (F.keeps fun _ _ e => Heap.get?_push_of_some _ e) (N.grown fun _ _ e => Heap.get?_push_of_some _ e) (Nat.ne_of_lt F.ns.lt) (next_is_new F) (fun p hp => Nat.ne_of_lt (Heap.lt_size (N p hp).1)) h0 (R _) ?_
  intro D C h tk m' ys F' N' o1 hn hC₀ hCL hCD offC hJ
  refine ⟨m', hn, fun h'' hs'' => fin D h'' tk ys (F'.change hs'' hCL hC₀) (fun p hp => ?_) o1 hJ⟩
  refine ⟨hs''.extBut _ _ ?_ (N' p hp).1, (N' p hp).2⟩
  rcases List.mem_cons.mp hp with rfl | hp
  · exact Ne.symm hCD
  · exact offC p hp
end

end
section
theorem words_lawp : True := by
  k_with_none
  (k_with "CJ" => (with_reducible first | assumption | exact cj0 ‹_› | exact cj1 ‹_› | exact cl1 ‹_› | exact cj2 ‹_› | exact cl2 ‹_› | exact cj3 ‹_› | exact cl3 ‹_› | exact cj4 ‹_› | exact cl4 ‹_› | exact cj5 ‹_› | exact cl5 ‹_› | exact cj6 ‹_› | exact cl6 ‹_› | exact cj7 ‹_› | exact cl7 ‹_› | exact cj8 ‹_› | exact cl8 ‹_› | exact cj9 ‹_› | exact cl9 ‹_› | exact cj10 ‹_› | exact cl10 ‹_› | exact cj11 ‹_› | exact cl11 ‹_› | exact cj12 ‹_› | exact cl12 ‹_›))
  (k_with "k_ne" => (((refine neN ?_); (try dsimp only); first | exact Nat.ne_of_gt (by k_extra "CJ") | exact Nat.ne_of_lt (by k_extra "CJ") | k_extra "CJ" | exact Ne.symm (by k_extra "CJ"))))
  (k_with "ktr_room" => (first | exact rm0 ‹_› | exact rm1 ‹_› rfl | exact rm2 ‹_› rfl | exact rm3 ‹_› rfl))
  (k_with "ktr_units" => (first | exact rm0 ‹_› | exact rm1 ‹_› rfl | exact rm2 ‹_› rfl | exact rm3 ‹_› rfl))
  (k_with "k_mem" => (first | exact List.Mem.head _ | (refine' List.Mem.tail _ ?_; k_mem) | (show (_ : Addr × Obj) ∈ (_ : List (Addr × Obj)); with_reducible assumption)))
  (k_with "callWith ref" => ((k_here; k_dflt (first | (refine' callWith_K ?zzk1 ?zzk2 ?_; (case zzk1 => k_asm); (case zzk2 => k_is); k_whole) | (refine' callWith_KW ?zzk1 ?zzk2 ?zzk3 ?_; (case zzk1 => k_asm); (case zzk2 => k_is); (case zzk3 => exact rfl); k_whole)))))
  (k_with "call builtin:len" => ((k_here; (with_reducible show wpAny _ _ (call (Value.builtin "len") [Value.ref _]) _ _ _); k_dflt (refine' my_len ?zzk1 ?zzk2 ?zzk3 ?_; (case zzk1 => k_asm); (case zzk2 => k_mem); (case zzk3 => first | assumption | omega); k_whole))))
  (k_with "callWith ref" => ((k_here; k_dflt (refine' callWith_Fn1 ?zzkf ?_; (case zzkf => with_reducible assumption); k_whole))))
  (k_with "And" => (((with_reducible show IsFn _ _ ∧ _); refine ⟨KeyFn.get (by with_reducible assumption) (by k_in) (by k_asm), ?_⟩; try dsimp only [List.nil_append, List.cons_append])))
  (k_with "CompEnd" => ((k_dflt (refine' compEnd_same ?zzF ?zzN ?zzoff ?zzsrc ?_; (case zzF => k_asm); (case zzN => k_asm); (case zzoff => first | assumption | ((simp only [LCg.Off3, and_true]); first | done | assumption)); (case zzsrc => lcg_src)))))
  exact True.intro
theorem glue_join : ∀ (ns : List Nat), ns ≠ [] → (Str.join blank (ns.map fun n => sgTab.getD n ⟨#[]⟩)).cps.toList = glue ns
  | [], h => absurd rfl h
  | [n], _ => rfl
  | n :: m :: r, _ => by
    have ih := glue_join (m :: r) (by simp)
    have e : Str.join blank ((n :: m :: r).map fun n => sgTab.getD n ⟨#[]⟩) = sgTab.getD n ⟨#[]⟩ ++ blank ++ Str.join blank ((m :: r).map fun n => sgTab.getD n ⟨#[]⟩) := by
      rw [List.map_cons, List.map_cons]
      rfl
    rw [e, Str.cps_append, Str.cps_append, Array.toList_append, Array.toList_append, ih]
    show (sg n ++ [32]) ++ glue (m :: r) = sg n ++ 32 :: glue (m :: r)
    simp
theorem join_cuts {ns : List Nat} (h0 : ns ≠ []) (hn : ∀ n ∈ ns, n < 48) : Cuts (Txt.join blank (ns.map fun n => sgTab.getD n ⟨#[]⟩)).cps.toList 0 (ns.map fun n : Nat => (n : Int) + 7) := by
  have e : Txt.join blank (ns.map fun n => sgTab.getD n ⟨#[]⟩) = Str.join blank (ns.map fun n => sgTab.getD n ⟨#[]⟩) := eq_of_beq (join_plain_closes _ _)
  rw [e, glue_join ns h0]
  exact cuts_glue ns _ [] h0 hn rfl
theorem join_short {ns : List Nat} (h0 : ns ≠ []) (hn : ∀ n ∈ ns, n < 48) : (Txt.join blank (ns.map fun n => sgTab.getD n ⟨#[]⟩)).length ≤ 4 * ns.length := by
  have e : Txt.join blank (ns.map fun n => sgTab.getD n ⟨#[]⟩) = Str.join blank (ns.map fun n => sgTab.getD n ⟨#[]⟩) := eq_of_beq (join_plain_closes _ _)
  have hl : ∀ (ns : List Nat), (∀ n ∈ ns, n < 48) → (glue ns).length ≤ 4 * ns.length := by
    intro ns
    induction ns with
    | nil => intro _; exact Nat.le_refl _
    | cons n r ih =>
      intro h
      have hc := sg_codes n (List.mem_range.mpr (h n (.head _)))
      cases r with
      | nil => show (sg n).length ≤ 4; omega
      | cons m r =>
        have ih := ih fun x hx => h x (.tail _ hx)
        have e : (glue (n :: m :: r)).length = (sg n).length + 1 + (glue (m :: r)).length := by
          show (sg n ++ 32 :: glue (m :: r)).length = _
          rw [List.length_append, List.length_cons]
          omega
        rw [e, List.length_cons]
        omega
  have : (Txt.join blank (ns.map fun n => sgTab.getD n ⟨#[]⟩)).cps.toList.length ≤ 4 * ns.length := by
    rw [e, glue_join ns h0]
    exact hl ns hn
  rwa [Array.length_toList] at this
theorem sg_small {n : Nat} (h : n < 48) : (sgTab.getD n ⟨#[]⟩).length ≤ 3 := by
  have := (sg_codes n (List.mem_range.mpr h)).2.1
  unfold sg at this
  rwa [Array.length_toList] at this
/-- an item of the signs' list -/
theorem my_sign {prog : Program} {w : World} {A : Around} {E : Value → Shared → Prop} {s : Shared} {h₀ : Heap} {L l : Addr} {news : List (Addr × Obj)} {us : List (Str × Tok)} {c : Nat} {value slice : PySem.Expr} {k : Int} {n : Nat} {u : Tok} {Q : Value → Shared → Prop} (N : News h₀ L s.heap news) (hm : (l, listOf (List.toArray (strValues us)) c) ∈ news)
    (hs8 : Sealed (us.map (·.1) = sgTab)) (hk : k = (n : Int)) (h48 : n < 48) (h : ∀ t, Q (.str (sgTab.getD n ⟨#[]⟩) t) s)
    (hs : subscripted slice false (.ref l) (.int k u) = operate [.ref l, .int k u] (getItem (.ref l) (.int k u)) := by with_unfolding_all rfl) :
    wpAny (model prog w) A (subscriptTail value slice (.ref l) (.int k u)) Q E s := by
  have hl : us.length = 48 := by rw [← sg_len, ← hs8.eq, List.length_map]
  have hx : us[n]? = some us[n] := List.getElem?_eq_getElem (by omega)
  have e1 : (strValues us)[n]? = some (.str us[n].1 us[n].2) := by
    unfold strValues
    rw [List.getElem?_map, hx]
    rfl
  have e2 : sgTab.getD n ⟨#[]⟩ = us[n].1 := by
    rw [← hs8.eq, List.getD_eq_getElem?_getD, List.getElem?_map, hx]
    rfl
  refine my_itemC N hm (by omega) (by omega) (v := .str us[n].1 us[n].2) (by rw [hk, Int.toNat_natCast]; exact e1) ?_ hs
  have := h us[n].2
  rw [e2] at this
  exact this
theorem ints_r5 {ys : List Value} {g : Nat → Int} (h : IntsAre ys ((List.range 5).map g)) : ∃ t0 t1 t2 t3 t4, ys = [.int (g 0) t0, .int (g 1) t1, .int (g 2) t2, .int (g 3) t3, .int (g 4) t4] := by
  have e : (List.range 5).map g = [g 0, g 1, g 2, g 3, g 4] := rfl
  rw [e] at h
  obtain ⟨t0, r0, e0, h0⟩ := h.cons_inv
  obtain ⟨t1, r1, e1, h1⟩ := h0.cons_inv
  obtain ⟨t2, r2, e2, h2⟩ := h1.cons_inv
  obtain ⟨t3, r3, e3, h3⟩ := h2.cons_inv
  obtain ⟨t4, r4, e4, h4⟩ := h3.cons_inv
  exact ⟨t0, t1, t2, t3, t4, by rw [e0, e1, e2, e3, e4, h4.nil_inv]⟩
theorem sym4 {ys : List Value} {c : Int} (h : IntsAre ys ((List.range 4).map fun i : Nat => Int.fmod c 45 + 7 + (0 + (i : Int)))) : ∃ (r : Int) (t0 t1 t2 t3 : Tok), 0 ≤ r ∧ r < 45 ∧ ys = [.int (r + 7) t0, .int (r + 8) t1, .int (r + 9) t2, .int (r + 10) t3] := by
  have e : ((List.range 4).map fun i : Nat => Int.fmod c 45 + 7 + (0 + (i : Int))) = [Int.fmod c 45 + 7, Int.fmod c 45 + 8, Int.fmod c 45 + 9, Int.fmod c 45 + 10] := by
    rw [show List.range 4 = [0, 1, 2, 3] from rfl]
    simp only [List.map_cons, List.map_nil, List.cons.injEq, and_true]
    refine ⟨?_, ?_, ?_, ?_⟩ <;> omega
  rw [e] at h
  obtain ⟨t0, r0, e0, h0⟩ := h.cons_inv
  obtain ⟨t1, r1, e1, h1⟩ := h0.cons_inv
  obtain ⟨t2, r2, e2, h2⟩ := h1.cons_inv
  obtain ⟨t3, r3, e3, h3⟩ := h2.cons_inv
  exact ⟨Int.fmod c 45, t0, t1, t2, t3, fmod_lo _ (by decide), fmod_hi _ (by decide), by rw [e0, e1, e2, e3, h3.nil_inv]⟩
/-- the message as it grows: its numbers are small, its tokens lie below the count -/
def MsgJ (i tk : Nat) (ys : List Value) : Prop := 1 ≤ tk ∧ ∃ ns, IntsAre ys ns ∧ ns.length = i ∧ (∀ n ∈ ns, 1 ≤ n ∧ n ≤ 4) ∧ ∀ a (t : Nat), Value.int a t ∈ ys → 1 ≤ t ∧ t < tk
theorem MsgJ.start {tk : Nat} (h : 1 ≤ tk) : MsgJ 0 tk [] := ⟨h, [], .nil, rfl, fun _ h => (nomatch h), fun _ _ h => (nomatch h)⟩
theorem MsgJ.mono (i tk tk' : Nat) (ys : List Value) (h : MsgJ i tk ys) (hle : tk ≤ tk') : MsgJ i tk' ys := by
  obtain ⟨h1, ns, a, b, c, d⟩ := h
  exact ⟨Nat.le_trans h1 hle, ns, a, b, c, fun x t m => ⟨(d x t m).1, Nat.lt_of_lt_of_le (d x t m).2 hle⟩⟩
theorem MsgJ.next {i tk tk' t : Nat} {x : Int} {ys : List Value} (h : MsgJ i tk ys) (hle : tk ≤ tk') (h1 : tk ≤ t) (h2 : t < tk') : MsgJ (i + 1) tk' (ys ++ [.int (Int.fmod x 4 + 1) t]) := by
  obtain ⟨k1, ns, a, b, c, d⟩ := h
  have f0 := fmod_lo x (show (0 : Int) < 4 by decide)
  have f1 := fmod_hi x (show (0 : Int) < 4 by decide)
  refine ⟨Nat.le_trans k1 hle, ns ++ [Int.fmod x 4 + 1], a.append (.cons _ _ .nil), by simp [b], fun n hn => ?_, fun y u m => ?_⟩
  · rcases List.mem_append.mp hn with hn | hn
    · exact c n hn
    · rw [List.mem_singleton.mp hn]; omega
  · rcases List.mem_append.mp m with m | m
    · exact ⟨(d y u m).1, Nat.lt_of_lt_of_le (d y u m).2 hle⟩
    · have e := List.mem_singleton.mp m
      injection e with _ e
      subst e
      exact ⟨Nat.le_trans k1 h1, h2⟩
theorem MsgJ.six {tk : Nat} {ys : List Value} (h : MsgJ 6 tk ys) : ∃ (a0 a1 a2 a3 a4 a5 : Int) (t0 t1 t2 t3 t4 t5 : Nat), ys = [.int a0 t0, .int a1 t1, .int a2 t2, .int a3 t3, .int a4 t4, .int a5 t5] ∧ (∀ a ∈ [a0, a1, a2, a3, a4, a5], 1 ≤ a ∧ a ≤ 4) ∧ ∀ t ∈ [t0, t1, t2, t3, t4, t5], 1 ≤ t ∧ t < tk := by
  obtain ⟨_, ns, h, b, c, d⟩ := h
  obtain ⟨a0, t0, _, _, rfl, rfl, h, b⟩ := ints_cons h b
  obtain ⟨a1, t1, _, _, rfl, rfl, h, b⟩ := ints_cons h b
  obtain ⟨a2, t2, _, _, rfl, rfl, h, b⟩ := ints_cons h b
  obtain ⟨a3, t3, _, _, rfl, rfl, h, b⟩ := ints_cons h b
  obtain ⟨a4, t4, _, _, rfl, rfl, h, b⟩ := ints_cons h b
  obtain ⟨a5, t5, _, _, rfl, rfl, h, b⟩ := ints_cons h b
  obtain ⟨rfl, rfl⟩ := ints_nil h b
  refine ⟨a0, a1, a2, a3, a4, a5, t0, t1, t2, t3, t4, t5, rfl, c, fun t ht => ?_⟩
  simp only [List.mem_cons, List.not_mem_nil, or_false] at ht
  rcases ht with rfl | rfl | rfl | rfl | rfl | rfl
  · exact d a0 _ (by simp)
  · exact d a1 _ (by simp)
  · exact d a2 _ (by simp)
  · exact d a3 _ (by simp)
  · exact d a4 _ (by simp)
  · exact d a5 _ (by simp)
theorem nil_all {α : Type} {p : α → Prop} : (∀ x, x ∈ ([] : List α) → p x) ↔ True := ⟨fun _ => True.intro, fun _ _ h => nomatch h⟩
/-- the symbols: the end's, then four of the signs', side by side -/
abbrev symL (r : Int) : List Int := [0, r + 7, r + 8, r + 9, r + 10]
theorem sym_val {r p : Int} (h1 : 1 ≤ p) (h4 : p ≤ 4) : (symL r).getD p.toNat 0 = r + 6 + p := by
  obtain rfl | rfl | rfl | rfl : p = 1 ∨ p = 2 ∨ p = 3 ∨ p = 4 := by omega
  · show r + 7 = r + 6 + 1; omega
  · show r + 8 = r + 6 + 2; omega
  · show r + 9 = r + 6 + 3; omega
  · show r + 10 = r + 6 + 4; omega
theorem my_sym {prog : Program} {w : World} {A : Around} {E : Value → Shared → Prop} {s : Shared} {h₀ : Heap} {L l : Addr} {news : List (Addr × Obj)} {c : Nat} {value slice : PySem.Expr} {r p : Int} {t0 t1 t2 t3 t4 u : Tok} {Q : Value → Shared → Prop} (N : News h₀ L s.heap news) (hm : (l, listOf (List.toArray [.int 0 t0, .int (r + 7) t1, .int (r + 8) t2, .int (r + 9) t3, .int (r + 10) t4]) c) ∈ news)
    (h1 : 1 ≤ p) (h4 : p ≤ 4) (h : ∀ t, Q (.int (r + 6 + p) t) s)
    (hs : subscripted slice false (.ref l) (.int p u) = operate [.ref l, .int p u] (getItem (.ref l) (.int p u)) := by with_unfolding_all rfl) :
    wpAny (model prog w) A (subscriptTail value slice (.ref l) (.int p u)) Q E s := by
  refine my_itemI (ns := symL r) N hm (.cons _ _ (.cons _ _ (.cons _ _ (.cons _ _ (.cons _ _ .nil))))) (by omega) (by show p < (5 : Nat); omega) (by show 5 < 1000; decide) (fun t => ?_) hs
  rw [sym_val h1 h4]
  exact h t
def sgn (r p : Int) : Nat := (r + 6 + p - 7).toNat
theorem my_sign2 {prog : Program} {w : World} {A : Around} {E : Value → Shared → Prop} {s : Shared} {h₀ : Heap} {L l : Addr} {news : List (Addr × Obj)} {us : List (Str × Tok)} {c : Nat} {value slice : PySem.Expr} {r p : Int} {u : Tok} {Q : Value → Shared → Prop} (N : News h₀ L s.heap news) (hm : (l, listOf (List.toArray (strValues us)) c) ∈ news)
    (hs8 : Sealed (us.map (·.1) = sgTab)) (r0 : 0 ≤ r) (r1 : r < 45) (h1 : 1 ≤ p) (h4 : p ≤ 4) (h : ∀ t, Q (.str (sgTab.getD (sgn r p) ⟨#[]⟩) t) s)
    (hs : subscripted slice false (.ref l) (.int (r + 6 + p - 7) u) = operate [.ref l, .int (r + 6 + p - 7) u] (getItem (.ref l) (.int (r + 6 + p - 7) u)) := by with_unfolding_all rfl) :
    wpAny (model prog w) A (subscriptTail value slice (.ref l) (.int (r + 6 + p - 7) u)) Q E s :=
  my_sign N hm hs8 (n := sgn r p) (by unfold sgn; omega) (by unfold sgn; omega) h hs
theorem sgn_lt {r p : Int} (r1 : r < 45) (h4 : p ≤ 4) : sgn r p < 48 := by unfold sgn; omega
theorem my_join {prog : Program} {w : World} {A : Around} {E : Value → Shared → Prop} {s : Shared} {h₀ : Heap} {L l : Addr} {news : List (Addr × Obj)} {r p0 p1 p2 p3 p4 p5 : Int} {t0 t1 t2 t3 t4 t5 t : Tok} {x : Str} {Q : Value → Shared → Prop} (N : News h₀ L s.heap news)
    (hm : (l, LCg.lst [.str (sgTab.getD (sgn r p0) ⟨#[]⟩) t0, .str (sgTab.getD (sgn r p1) ⟨#[]⟩) t1, .str (sgTab.getD (sgn r p2) ⟨#[]⟩) t2, .str (sgTab.getD (sgn r p3) ⟨#[]⟩) t3, .str (sgTab.getD (sgn r p4) ⟨#[]⟩) t4, .str (sgTab.getD (sgn r p5) ⟨#[]⟩) t5]) ∈ news)
    (hx : x = blank) (r1 : r < 45) (h0 : p0 ≤ 4) (h1 : p1 ≤ 4) (h2 : p2 ≤ 4) (h3 : p3 ≤ 4) (h4 : p4 ≤ 4) (h5 : p5 ≤ 4)
    (h : ∀ x t' k, x.length ≤ 100 → Cuts x.cps.toList 0 ([sgn r p0, sgn r p1, sgn r p2, sgn r p3, sgn r p4, sgn r p5].map fun n : Nat => (n : Int) + 7) → Q (.str x t') { s with toks := k }) : wpAny (model prog w) A (call (.builtin "str.join") [.str x t, .ref l]) Q E s := by
  subst hx
  have hn : ∀ n ∈ [sgn r p0, sgn r p1, sgn r p2, sgn r p3, sgn r p4, sgn r p5], n < 48 := by
    intro n hn
    simp only [List.mem_cons, List.not_mem_nil, or_false] at hn
    rcases hn with rfl | rfl | rfl | rfl | rfl | rfl <;> exact sgn_lt r1 (by assumption)
  have hw : ∀ n ∈ [sgn r p0, sgn r p1, sgn r p2, sgn r p3, sgn r p4, sgn r p5], (sgTab.getD n ⟨#[]⟩).length ≤ 3 := fun n h => sg_small (hn n h)
  refine join_listW (ys := [sgn r p0, sgn r p1, sgn r p2, sgn r p3, sgn r p4, sgn r p5].map fun n => sgTab.getD n ⟨#[]⟩) ⟨_, (N _ hm).1, rfl, _, rfl⟩ (.cons _ _ (.cons _ _ (.cons _ _ (.cons _ _ (.cons _ _ (.cons _ _ .nil)))))) (by decide) ?_ fun t' k => h _ t' k (Nat.le_trans (join_short (by simp) hn) (show 4 * 6 ≤ 100 by decide)) (join_cuts (by simp) hn)
  have a0 := hw (sgn r p0) (by simp)
  have a1 := hw (sgn r p1) (by simp)
  have a2 := hw (sgn r p2) (by simp)
  have a3 := hw (sgn r p3) (by simp)
  have a4 := hw (sgn r p4) (by simp)
  have a5 := hw (sgn r p5) (by simp)
  simp only [List.map_cons, List.map_nil, List.sum_cons, List.sum_nil, List.length_cons, List.length_nil]
  omega

end
section
theorem words_lawA : True := by
  k_with_none
  (k_with "CJ" => (with_reducible first | assumption | exact cj0 ‹_› | exact cj1 ‹_› | exact cl1 ‹_› | exact cj2 ‹_› | exact cl2 ‹_› | exact cj3 ‹_› | exact cl3 ‹_› | exact cj4 ‹_› | exact cl4 ‹_› | exact cj5 ‹_› | exact cl5 ‹_› | exact cj6 ‹_› | exact cl6 ‹_› | exact cj7 ‹_› | exact cl7 ‹_› | exact cj8 ‹_› | exact cl8 ‹_› | exact cj9 ‹_› | exact cl9 ‹_› | exact cj10 ‹_› | exact cl10 ‹_› | exact cj11 ‹_› | exact cl11 ‹_› | exact cj12 ‹_› | exact cl12 ‹_›))
  (k_with "k_ne" => (((refine neN ?_); (try dsimp only); first | exact Nat.ne_of_gt (by k_extra "CJ") | exact Nat.ne_of_lt (by k_extra "CJ") | k_extra "CJ" | exact Ne.symm (by k_extra "CJ"))))
  (k_with "ktr_room" => (first | exact rm0 ‹_› | exact rm1 ‹_› rfl | exact rm2 ‹_› rfl | exact rm3 ‹_› rfl))
  (k_with "ktr_units" => (first | exact rm0 ‹_› | exact rm1 ‹_› rfl | exact rm2 ‹_› rfl | exact rm3 ‹_› rfl))
  (k_with "k_mem" => (first | exact List.Mem.head _ | (refine' List.Mem.tail _ ?_; k_mem) | (show (_ : Addr × Obj) ∈ (_ : List (Addr × Obj)); with_reducible assumption)))
  (k_with "callWith ref" => ((k_here; k_dflt (first | (refine' callWith_K ?zzk1 ?zzk2 ?_; (case zzk1 => k_asm); (case zzk2 => k_is); k_whole) | (refine' callWith_KW ?zzk1 ?zzk2 ?zzk3 ?_; (case zzk1 => k_asm); (case zzk2 => k_is); (case zzk3 => exact rfl); k_whole)))))
  (k_with "call builtin:len" => ((k_here; (with_reducible show wpAny _ _ (call (Value.builtin "len") [Value.ref _]) _ _ _); k_dflt (refine' my_len ?zzk1 ?zzk2 ?zzk3 ?_; (case zzk1 => k_asm); (case zzk2 => k_mem); (case zzk3 => first | assumption | omega); k_whole))))
  (k_with "callWith ref" => ((k_here; k_dflt (refine' callWith_Fn1 ?zzkf ?_; (case zzkf => with_reducible assumption); k_whole))))
  (k_with "And" => (((with_reducible show IsFn _ _ ∧ _); refine ⟨KeyFn.get (by with_reducible assumption) (by k_in) (by k_asm), ?_⟩; try dsimp only [List.nil_append, List.cons_append])))
  (k_with "CompEnd" => ((k_dflt (refine' compEnd_same ?zzF ?zzN ?zzoff ?zzsrc ?_; (case zzF => k_asm); (case zzN => k_asm); (case zzoff => first | assumption | ((simp only [LCg.Off3, and_true]); first | done | assumption)); (case zzsrc => lcg_src)))))
  exact True.intro
structure KeepX (p : Prop) : Prop where
  out : p
def ghostIs {h₀ h : Heap} {L : Addr} {m : Str → Option Value} (_ : Fr h₀ L h m) : Heap := h₀
def frameIs {h₀ h : Heap} {L : Addr} {m : Str → Option Value} (_ : Fr h₀ L h m) : Addr := L
def localsIs {h₀ h : Heap} {L : Addr} {m : Str → Option Value} (_ : Fr h₀ L h m) : Str → Option Value := m
theorem pow4_ne (k : Nat) : (4 : Int) ^ k ≠ 0 := Int.ne_of_gt (Int.pow_pos (by decide))
theorem pow4_small {i : Nat} (h : i < 6) : ((4 : Int) ^ ((0 : Int) + (i : Int)).toNat).natAbs < 1073741824 := by
  match i, h with
  | 0, _ => decide
  | 1, _ => decide
  | 2, _ => decide
  | 3, _ => decide
  | 4, _ => decide
  | 5, _ => decide
theorem toks7 {a0 a1 a2 a3 a4 a5 k : Nat} (h : (1 ≤ a0 ∧ a0 < k) ∧ (1 ≤ a1 ∧ a1 < k) ∧ (1 ≤ a2 ∧ a2 < k) ∧ (1 ≤ a3 ∧ a3 < k) ∧ (1 ≤ a4 ∧ a4 < k) ∧ 1 ≤ a5 ∧ a5 < k) : ∀ t ∈ [a0, a1, a2, a3, a4, a5, k], 1 ≤ t ∧ t < k + 1 + 1 := by
  simp only [List.forall_mem_cons, nil_all, and_true]
  omega
theorem sel18 {h₀ h : Heap} {L : Addr} {e0 e1 e2 e3 e4 e5 e6 e7 e8 e9 e10 e11 e12 e13 e14 e15 e16 e17 : Addr × Obj} (N : News h₀ L h [e0, e1, e2, e3, e4, e5, e6, e7, e8, e9, e10, e11, e12, e13, e14, e15, e16, e17]) : News h₀ L h [e11, e12, e16, e17, e0, e3, e7, e8, e9, e13, e14] :=
  news_sub N fun p hp => by
    simp only [List.mem_cons, List.not_mem_nil, or_false] at hp ⊢
    rcases hp with rfl | rfl | rfl | rfl | rfl | rfl | rfl | rfl | rfl | rfl | rfl <;> simp
theorem apart7 {L MS SY fa za W : Nat} {x0 x1 x2 x3 x4 x5 x6 : Obj} (l0 : (177 : Nat) < L ∧ (172 : Nat) < L) (hM : (L + 1 + 1 + 1 + 1 + 1) < MS ∧ (L + 1 + 1 + 1 + 1) < MS ∧ 177 < MS ∧ 172 < MS) (hS : (L + 1 + 1 + 1 + 1 + 1) < SY ∧ (L + 1 + 1 + 1 + 1) < SY ∧ 177 < SY ∧ 172 < SY) (hf : (L + 1 + 1 + 1 + 1 + 1) ≠ fa ∧ (L + 1 + 1 + 1 + 1) ≠ fa ∧ 177 ≠ fa ∧ 172 ≠ fa) (hz : (L + 1 + 1 + 1 + 1 + 1) ≠ za ∧ (L + 1 + 1 + 1 + 1) ≠ za ∧ 177 ≠ za ∧ 172 ≠ za) (hW : (L + 1 + 1 + 1 + 1 + 1) ≠ W ∧ (L + 1 + 1 + 1 + 1) ≠ W ∧ 177 ≠ W ∧ 172 ≠ W) :
    (∀ p ∈ ([(MS, x0), (SY, x1), (fa, x2), (za, x3), (W, x4), ((L + 1 + 1 + 1), x5), ((L + 1 + 1), x6)] : List (Addr × Obj)), @Ne Nat p.1 (L + 1 + 1 + 1 + 1 + 1)) ∧ (∀ p ∈ ([(MS, x0), (SY, x1), (fa, x2), (za, x3), (W, x4), ((L + 1 + 1 + 1), x5), ((L + 1 + 1), x6)] : List (Addr × Obj)), @Ne Nat p.1 (L + 1 + 1 + 1 + 1)) ∧ (∀ p ∈ ([(MS, x0), (SY, x1), (fa, x2), (za, x3), (W, x4), ((L + 1 + 1 + 1), x5), ((L + 1 + 1), x6)] : List (Addr × Obj)), @Ne Nat p.1 177) ∧ (∀ p ∈ ([(MS, x0), (SY, x1), (fa, x2), (za, x3), (W, x4), ((L + 1 + 1 + 1), x5), ((L + 1 + 1), x6)] : List (Addr × Obj)), @Ne Nat p.1 172) := by
  simp only [List.forall_mem_cons, nil_all, and_true]
  refine ⟨⟨?_, ?_, ?_, ?_, ?_, ?_, ?_⟩, ⟨?_, ?_, ?_, ?_, ?_, ?_, ?_⟩, ⟨?_, ?_, ?_, ?_, ?_, ?_, ?_⟩, ?_, ?_, ?_, ?_, ?_, ?_, ?_⟩
  all_goals first | exact Nat.ne_of_gt (by omega) | exact Ne.symm hf.1 | exact Ne.symm hf.2.1 | exact Ne.symm hf.2.2.1 | exact Ne.symm hf.2.2.2 | exact Ne.symm hz.1 | exact Ne.symm hz.2.1 | exact Ne.symm hz.2.2.1 | exact Ne.symm hz.2.2.2 | exact Ne.symm hW.1 | exact Ne.symm hW.2.1 | exact Ne.symm hW.2.2.1 | exact Ne.symm hW.2.2.2 | exact Nat.ne_of_lt (by omega)
/-- what the law's first five statements leave -/
structure PreOk (fv zv : List Value) (f z : Nat) (M w0 w1 w2 w3 w4 r p0 p1 p2 p3 p4 p5 : Int) (pt0 pt1 pt2 pt3 pt4 pt5 pt6 tk : Nat) : Prop where
  fi : IntsAre fv (kd f)
  zi : IntsAre zv (kd z)
  best : ∃ x0 x1 x2 x3 x4, ([x0, x1, x2, x3, x4] : List Int).Perm [w0, w1, w2, w3, w4] ∧ List.Pairwise (fun a b => a ≤ b) ([x0, x1, x2, x3, x4] : List Int) ∧ M ∈ cost3 x0 x1 x2 x3 x4 ∧ (∀ c ∈ cost3 x0 x1 x2 x3 x4, M ≤ c) ∧ (bests (cost3 x0 x1 x2 x3 x4) M).head? = some f ∧ (bests (cost3 x0 x1 x2 x3 x4) M).getLast? = some z
  r0 : 0 ≤ r
  r1 : r < 45
  ps : ∀ p ∈ [p0, p1, p2, p3, p4, p5], 1 ≤ p ∧ p ≤ 4
  ts : ∀ t ∈ [pt0, pt1, pt2, pt3, pt4, pt5, pt6], 1 ≤ t ∧ t < tk
theorem words_lawA_1 : True := by
  (k_with "k_all" => (first | (with_reducible assumption) | exact List.forall_mem_nil _ | (refine' List.forall_mem_cons.mpr ⟨?zzka, ?zzkb⟩; (case zzka => k_ne); (case zzkb => k_all))))
  (k_with "CompSrc" => ((k_here; k_dflt (refine KeepSrc.out ?_))))
  (k_with "binaryOp Pow int int" => ((k_here; (with_reducible refine pow_int_small ?zzkb1 ?zzkb2 ?zzkb3 ?_); (case zzkb1 => omega); (case zzkb2 => omega); (case zzkb3 => decide))))
  (k_with "binaryOp FloorDiv int int" => ((k_here; (with_reducible refine floordiv_int ?zzkb1 ?_ (Or.inl (PyProof.noPylong_small ?zzkb2))); (case zzkb1 => exact pow4_ne _); (case zzkb2 => exact pow4_small (by assumption)))))
  (k_with "eval ListComp" => ((k_here; k_dflt (first
  | ((with_reducible show wpAny _ _ (eval (PySem.Expr.ListComp (PySem.Expr.BinOp _ _ (PySem.Expr.Constant _ _ _) _) _ _ _) _) _ _ _); (rename Fr _ _ _ _ => lFt); (refine ListComp_tok (h₀ := ghostIs lFt) (L := frameIs lFt) (m := localsIs lFt) (by with_unfolding_all rfl) (by decide) (by rfl) (by decide) (by rfl) ?_); (try dsimp only [ghostIs, frameIs, localsIs]))
  | (refine LCg.ListComp_U (F₀ := by k_asm) (by with_unfolding_all rfl) (by decide) (by rfl) (by decide) (by rfl) ?_)))))
  (k_with "execs cons" => (((with_reducible refine execs_grow ?_); try dsimp only)))
  (k_with "Grown" => ((refine Grown.intro fun hg9 => ?_; (try dsimp only at hg9))))
  exact True.intro
theorem law_a {prog : Program} {w : World} {loose : List Str} {mean : ExcName → Option Value} {mg mb : Str → Option Value} {g : Heap} {L : Nat} {f₀ : Addr} {cd : Value} {scope : Scope} {rest : List Stmt} {s0 s1 s2 s3 s4 : Stmt} {s : Shared} {l : Addr} {vs : List Value} {ns : List Int} {o1 o2 o3 o4 o5 : Obj} {v1 v2 v3 v4 v5 : Option Value} {Q : Flow → Shared → Prop} {E : Value → Shared → Prop}
    (hS : fnScope w.params 213 = some scope) (hBd : fnBody w.params 213 = s0 :: s1 :: s2 :: s3 :: s4 :: rest)
    (B : Below callerA g [] g) (X : (hd.heap_39 w.params).In g) (T : Top topProg loose mean mg mb g) (F : Fr g L s.heap (fun z => if z = "script" then some (.ref l) else none))
    (N : News g L s.heap [((L + 1 + 1 + 1 + 1 + 1 : Nat), o5), ((L + 1 + 1 + 1 + 1 : Nat), o4), ((L + 1 + 1 + 1 : Nat), o3), ((L + 1 + 1 : Nat), o2), ((L + 1 : Nat), o1), (177, tabObj #[]), (172, tabObj #[])]) (d1 : o1.data = .cell v1) (d2 : o2.data = .cell v2) (d3 : o3.data = .cell v3) (d4 : o4.data = .cell v4) (d5 : o5.data = .cell v5)
    (hC1 : CodeHd g 181 177) (hC2 : CodeHd g 174 172) (l0 : (177 : Nat) < L ∧ (172 : Nat) < L) (hl : g.IsList l vs.toArray) (hi : IntsAre vs ns) (hn : ns.length < 64)
    (hPE : PassesOwn (model prog w) (callerA.deeper (envOfC "law" scope L f₀ cd)) (envOfC "law" scope L f₀ cd) E)
    (hret : ∀ (h' : Heap) (tk' : Nat) (Z : List (Addr × Obj)) (MS SY fa za W : Addr) (o2' o3' : Obj) (c0 c1 cw cf cz : Nat) (M : Int) (Mt : Tok) (fv zv : List Value) (f z : Nat) (w0 w1 w2 w3 w4 : Int) (wt0 wt1 wt2 wt3 wt4 : Nat) (r : Int) (st0 st1 st2 st3 st4 : Tok) (p0 p1 p2 p3 p4 p5 : Int) (pt0 pt1 pt2 pt3 pt4 pt5 pt6 : Nat),
      Fr g L h' (fun y => if y = "message" then some (.ref MS) else if y = "steepest" then some (.ref za) else if y = "flattest" then some (.ref fa) else if y = "least" then some (.int M Mt) else if y = "script" then some (.ref l) else none) →
      News g L h' (((L + 1 + 1 + 1 + 1 + 1 : Nat), o5) :: ((L + 1 + 1 + 1 + 1 : Nat), o4) :: (177, tabObj #[]) :: (172, tabObj #[]) :: Z) → (∀ p ∈ Z, @Ne Nat p.1 (L + 1 + 1 + 1 + 1 + 1 : Nat)) → (∀ p ∈ Z, @Ne Nat p.1 (L + 1 + 1 + 1 + 1 : Nat)) → (∀ p ∈ Z, @Ne Nat p.1 177) → (∀ p ∈ Z, @Ne Nat p.1 172) →
      (MS, listOf (List.toArray [.int p0 pt0, .int p1 pt1, .int p2 pt2, .int p3 pt3, .int p4 pt4, .int p5 pt5, .int 0 pt6]) c0) ∈ Z → (SY, listOf (List.toArray [.int 0 st0, .int (r + 7) st1, .int (r + 8) st2, .int (r + 9) st3, .int (r + 10) st4]) c1) ∈ Z → (fa, listOf (List.toArray fv) cf) ∈ Z → (za, listOf (List.toArray zv) cz) ∈ Z → (W, listOf (List.toArray [.int w0 wt0, .int w1 wt1, .int w2 wt2, .int w3 wt3, .int w4 wt4]) cw) ∈ Z → ((L + 1 + 1 + 1 : Nat), o3') ∈ Z → ((L + 1 + 1 : Nat), o2') ∈ Z → o2'.data = .cell (some (.ref W)) → o3'.data = .cell (some (.ref SY)) →
      Sealed (PreOk fv zv f z M w0 w1 w2 w3 w4 r p0 p1 p2 p3 p4 p5 pt0 pt1 pt2 pt3 pt4 pt5 pt6 tk') →
      wpAny (model prog w) (callerA.deeper (envOfC "law" scope L f₀ cd)) (execs rest (envOfC "law" scope L f₀ cd)) Q E { s with heap := h', toks := tk' }) :
    wpAny (model prog w) (callerA.deeper (envOfC "law" scope L f₀ cd)) (execs (s0 :: s1 :: s2 :: s3 :: s4 :: rest) (envOfC "law" scope L f₀ cd)) Q E s := by
  k_with "EPSON" => skip
  k_with "NE9" => repeat (with_reducible first | exact neSh | exact neAr | exact neEx | exact neWo | refine neP ?_ ?_ | infer_instance)
  k_with "RangeRest" => first
    | ((with_unfolding_all refine RangeRest.succ ?_); intro t' h' tk' F' N')
    | ((with_unfolding_all refine RangeRest.zero ?_); intro h' tk' F' N')
  k_with "CompRest" => first
    | ((with_unfolding_all refine LCg.CompRest.succ ?_); (first | (k_extra "EPSON"; refine no_implicit_lambda% (all_eps10 (i := by k_extra "NE9") ?_); generalize pj0 _ = v', pj1 _ = I', pj2 _ = oI', pj3 _ = C', pj4 _ = oC', pj5 _ = D', pj6 _ = m', pj7 _ = h', pj8 _ = tk', pj9 _ = E'; intro hv' hC' hx' F' N' off' ne') | intro v' I' oI' C' oC' D' m' h' tk' E' hv' hC' hx' F' N' off' ne'); (first | lcg_open hv' | (refine ex_elim hv' ?_; clear hv'; intro t9' hv9'; subst hv9')); (try simp only [LCg.Off3, and_true] at off'))
    | with_unfolding_all refine LCg.CompRest.zero ?_
  k_with "EPS1" => (refine no_implicit_lambda% (all_eps (i := by k_extra "NE9") ?_); generalize eps _ _ = xE9)
  k_with "EPSCELLS" => first
    | (have hY := PyProof.Rows.CellsAre.one Y'; refine ex_elim hY ?_; clear hY; intro o' hE'; obtain ⟨hE', d1'⟩ := hE'; subst hE'; clear Y')
    | (have hY := PyProof.Rows.CellsAre.two Y'; refine ex_elim hY ?_; clear hY; intro o' hY; refine ex_elim hY ?_; clear hY; intro o2' hY; obtain ⟨hE', d1', d2'⟩ := hY; subst hE'; clear Y')
    | (have hY := PyProof.Rows.CellsAre.three Y'; refine ex_elim hY ?_; clear hY; intro o' hY; refine ex_elim hY ?_; clear hY; intro o2' hY; refine ex_elim hY ?_; clear hY; intro o3' hY; obtain ⟨hE', d1', d2', d3'⟩ := hY; subst hE'; clear Y')
  k_with "EPSENT" => skip
  revert hS hBd B X T F N d1 d2 d3 d4 d5 hC1 hC2 l0 hl hi hn hPE hret
  revert prog w loose mean mg mb g L f₀ cd scope rest s0 s1 s2 s3 s4 s l vs ns o1 o2 o3 o4 o5 v1 v2 v3 v4 v5 Q E
  refine no_implicit_lambda% (all_eps24 (i := by k_extra "NE9") ?_); generalize pj0 _ = prog, pj1 _ = w, pj2 _ = loose, pj3 _ = mean, pj4 _ = mg, pj5 _ = mb, pj6 _ = g, pj7 _ = L, pj8 _ = f₀, pj9 _ = cd, pj10 _ = scope, pj11 _ = rest, pj12 _ = s0, pj13 _ = s1, pj14 _ = s2, pj15 _ = s3, pj16 _ = s4, pj17 _ = s, pj18 _ = l, pj19 _ = vs, pj20 _ = ns, pj21 _ = o1, pj22 _ = o2, pj23 _ = o3; refine no_implicit_lambda% (all_eps9 (i := by k_extra "NE9") ?_); generalize pj0 _ = o4, pj1 _ = o5, pj2 _ = v1, pj3 _ = v2, pj4 _ = v3, pj5 _ = v4, pj6 _ = v5, pj7 _ = Q, pj8 _ = E
  intros hS hBd B X T F N d1 d2 d3 d4 d5 hC1 hC2 l0 hl hi hn hPE hret
  injection (show some _ = some scope from hS) with e0
  subst e0
  injection (show _ :: _ = s0 :: s1 :: s2 :: s3 :: s4 :: rest from hBd) with e0 e1
  injection e1 with e1 e2
  injection e2 with e2 e3
  injection e3 with e3 e4
  injection e4 with e4 e5
  subst e0 e1 e2 e3 e4
  clear hS hBd e5
  k_with_none
  (k_with "CJ" => (with_reducible first | assumption | exact cj0 ‹_› | exact cj1 ‹_› | exact cl1 ‹_› | exact cj2 ‹_› | exact cl2 ‹_› | exact cj3 ‹_› | exact cl3 ‹_› | exact cj4 ‹_› | exact cl4 ‹_› | exact cj5 ‹_› | exact cl5 ‹_› | exact cj6 ‹_› | exact cl6 ‹_› | exact cj7 ‹_› | exact cl7 ‹_› | exact cj8 ‹_› | exact cl8 ‹_› | exact cj9 ‹_› | exact cl9 ‹_› | exact cj10 ‹_› | exact cl10 ‹_› | exact cj11 ‹_› | exact cl11 ‹_› | exact cj12 ‹_› | exact cl12 ‹_›))
  (k_with "k_ne" => (((refine neN ?_); (try dsimp only); first | exact Nat.ne_of_gt (by k_extra "CJ") | exact Nat.ne_of_lt (by k_extra "CJ") | k_extra "CJ" | exact Ne.symm (by k_extra "CJ"))))
  (k_with "ktr_room" => (first | exact rm0 ‹_› | exact rm1 ‹_› rfl | exact rm2 ‹_› rfl | exact rm3 ‹_› rfl))
  (k_with "ktr_units" => (first | exact rm0 ‹_› | exact rm1 ‹_› rfl | exact rm2 ‹_› rfl | exact rm3 ‹_› rfl))
  (k_with "k_mem" => (first | exact List.Mem.head _ | (refine' List.Mem.tail _ ?_; k_mem) | (show (_ : Addr × Obj) ∈ (_ : List (Addr × Obj)); with_reducible assumption)))
  (k_with "callWith ref" => ((k_here; k_dflt (first | (refine' callWith_K ?zzk1 ?zzk2 ?_; (case zzk1 => k_asm); (case zzk2 => k_is); k_whole) | (refine' callWith_KW ?zzk1 ?zzk2 ?zzk3 ?_; (case zzk1 => k_asm); (case zzk2 => k_is); (case zzk3 => exact rfl); k_whole)))))
  (k_with "call builtin:len" => ((k_here; (with_reducible show wpAny _ _ (call (Value.builtin "len") [Value.ref _]) _ _ _); k_dflt (refine' my_len ?zzk1 ?zzk2 ?zzk3 ?_; (case zzk1 => k_asm); (case zzk2 => k_mem); (case zzk3 => first | assumption | omega); k_whole))))
  (k_with "callWith ref" => ((k_here; k_dflt (refine' callWith_Fn1 ?zzkf ?_; (case zzkf => with_reducible assumption); k_whole))))
  (k_with "And" => (((with_reducible show IsFn _ _ ∧ _); refine ⟨KeyFn.get (by with_reducible assumption) (by k_in) (by k_asm), ?_⟩; try dsimp only [List.nil_append, List.cons_append])))
  (k_with "CompEnd" => ((k_dflt (refine' compEnd_same ?zzF ?zzN ?zzoff ?zzsrc ?_; (case zzF => k_asm); (case zzN => k_asm); (case zzoff => first | assumption | ((simp only [LCg.Off3, and_true]); first | done | assumption)); (case zzsrc => lcg_src)))))
  (k_with "k_all" => (first | (with_reducible assumption) | exact List.forall_mem_nil _ | (refine' List.forall_mem_cons.mpr ⟨?zzka, ?zzkb⟩; (case zzka => k_ne); (case zzkb => k_all))))
  (k_with "CompSrc" => ((k_here; k_dflt (refine KeepSrc.out ?_))))
  (k_with "binaryOp Pow int int" => ((k_here; (with_reducible refine pow_int_small ?zzkb1 ?zzkb2 ?zzkb3 ?_); (case zzkb1 => omega); (case zzkb2 => omega); (case zzkb3 => decide))))
  (k_with "binaryOp FloorDiv int int" => ((k_here; (with_reducible refine floordiv_int ?zzkb1 ?_ (Or.inl (PyProof.noPylong_small ?zzkb2))); (case zzkb1 => exact pow4_ne _); (case zzkb2 => exact pow4_small (by assumption)))))
  (k_with "eval ListComp" => ((k_here; k_dflt (first
  | ((with_reducible show wpAny _ _ (eval (PySem.Expr.ListComp (PySem.Expr.BinOp _ _ (PySem.Expr.Constant _ _ _) _) _ _ _) _) _ _ _); (rename Fr _ _ _ _ => lFt); (refine ListComp_tok (h₀ := ghostIs lFt) (L := frameIs lFt) (m := localsIs lFt) (by with_unfolding_all rfl) (by decide) (by rfl) (by decide) (by rfl) ?_); (try dsimp only [ghostIs, frameIs, localsIs]))
  | (refine LCg.ListComp_U (F₀ := by k_asm) (by with_unfolding_all rfl) (by decide) (by rfl) (by decide) (by rfl) ?_)))))
  (k_with "execs cons" => (((with_reducible refine execs_grow ?_); try dsimp only)))
  (k_with "Grown" => ((refine Grown.intro fun hg9 => ?_; (try dsimp only at hg9))))
  (k_with "callWith ref" => ((with_reducible show wpAny _ _ (callWith _ (Value.ref _) _ (backTo _ (starEach [] _)) []) _ _ _); (refine' callWith_K0 ?kw1 ?kw2 ?_); (case kw1 => k_in); (case kw2 => k_is); (try dsimp only [List.append_nil])))
  (k_with "call ref" => (first
    | ((with_reducible show wpAny _ _ (call (Value.ref 137) _) _ _ _); k_dflt (refine' c_cells ?k1 ?k2 ?k3 ?k4 ?k5 ?kK ?kd ?ku ?kl ?ki ?kn ?_; (case k1 => k_asm); (case k2 => k_asm); (case k3 => k_asm); (case k4 => k_asm); (case k5 => k_asm); (case kK => exact rfl); (case kd => ktr_room); (case ku => ktr_units); (case kl => exact hl); (case ki => exact hi); (case kn => exact hn); k_whole); intro r8 vs8 cs8 n8 h8 tk8 F8 N8 l8 y8 z8; (try k_lt l8); (try dsimp only); (try k_fold))
    | ((with_reducible show wpAny _ _ (call (Value.ref 156) _) _ _ _); k_dflt (refine' c_cheapest ?k1 ?k2 ?k3 ?k4 ?k5 ?kK ?kd ?ku ?kl ?_; (case k1 => k_asm); (case k2 => k_asm); (case k3 => k_asm); (case k4 => k_asm); (case k5 => k_asm); (case kK => exact rfl); (case kd => ktr_room); (case ku => ktr_units); (case kl => k_mem); k_whole); intro r7 fa za lt7 fv zv cf cz f7 z7 M7 x0 x1 x2 x3 x4 h7 tk7 F7 N7 l7 nf7 nz7 fy7 zy7 pm7 lm7 be7; (try k_lt l7); (simp only [List.forall_mem_cons, nil_all, and_true] at nf7 nz7); (try dsimp only); (try k_fold))
    | ((with_reducible show wpAny _ _ (call (Value.ref 144) _) _ _ _); k_dflt (refine' c_signs ?k1 ?k2 ?k3 ?k4 ?k5 ?kK ?kd ?ku ?_; (case k1 => k_asm); (case k2 => k_asm); (case k3 => k_asm); (case k4 => k_asm); (case k5 => k_asm); (case kK => exact rfl); (case kd => ktr_room); (case ku => ktr_units); k_whole); intro r6 sl6 c6 h6 tk6 F6 N6 l6 sg6; (try k_lt l6); (try dsimp only); (try k_fold))
    | ((with_reducible show wpAny _ _ (call (Value.ref 151) _) _ _ _); k_dflt (refine' c_cut ?k1 ?k2 ?k3 ?k4 ?k5 ?kK ?kd ?ku ct5 lx5 ?kl ?_; (case k1 => k_asm); (case k2 => k_asm); (case k3 => k_asm); (case k4 => k_asm); (case k5 => k_asm); (case kK => exact rfl); (case kd => ktr_room); (case ku => ktr_units); (case kl => exact (show 6 < 100 by decide)); k_whole); intro r4 av4 c4 h4 tk4 F4 N4 l4 y4; (try k_lt l4); (try dsimp only); (try k_fold))))
  (k_with "call builtin:str.join" => (k_dflt (refine' my_join ?N ?kl ?kx sr1 ?h0 ?h1 ?h2 ?h3 ?h4 ?h5 ?_; (case N => k_asm); (case kl => k_mem); (case kx => decide +kernel); (case h0 => exact hp9.1.2); (case h1 => exact hp9.2.1.2); (case h2 => exact hp9.2.2.1.2); (case h3 => exact hp9.2.2.2.1.2); (case h4 => exact hp9.2.2.2.2.1.2); (case h5 => exact hp9.2.2.2.2.2.2)); intro x5 xt5 xk5 lx5 ct5; (try dsimp only)))
  (k_with "KeepSrc" => (first
    | (k_dflt (refine' KeepSrc.mk (LCg.CompSrc.range (n := 5) ?khA ?kFA ?kNA ?krA ?ksA ?kzA ?kqA ?ktA); (case khA => exact rfl); (case kFA => k_asm); (case kNA => k_asm); (case krA => assumption); (case ksA => decide); (case kzA => rfl); (case kqA => decide)); (case' ktA => (intro g9; refine' cr_range (fun i => if cs8.getD (0 + (i : Int)).toNat 0 < 0 then -cs8.getD (0 + (i : Int)).toNat 0 else cs8.getD (0 + (i : Int)).toNat 0) 5 ?turnA ?finA)); (case' turnA => (intro i9 t9 I9 oI9 C9 oC9 D9 m9 ys9 h9 tk9 E9 hi9 hC9 hv9 lF9 lN9 off9 ne9; (try simp only [LCg.Off3, and_true] at off9))); (case' finA => (intro ys9 y9; refine ex_elim10 (ints_five y9 rfl) ?_; (first | (k_extra "EPSON"; refine no_implicit_lambda% (all_eps10 (i := by k_extra "NE9") ?_); generalize pj0 _ = w0, pj1 _ = w1, pj2 _ = w2, pj3 _ = w3, pj4 _ = w4, pj5 _ = wt0, pj6 _ = wt1, pj7 _ = wt2, pj8 _ = wt3, pj9 _ = wt4; intro e5) | intro w0 w1 w2 w3 w4 wt0 wt1 wt2 wt3 wt4 e5); obtain ⟨rfl, ew9⟩ := e5; clear y9 ew9)))
    | (k_dflt (refine' KeepSrc.mk (LCg.CompSrc.range (n := 4) ?khB ?kFB ?kNB ?krB ?ksB ?kzB ?kqB ?ktB); (case khB => exact rfl); (case kFB => k_asm); (case kNB => k_asm); (case krB => assumption); (case ksB => decide); (case kzB => rfl); (case kqB => decide)); (case' ktB => (intro g9; refine' cr_range (fun i => Int.fmod (cs8.getD 6 0) 45 + 7 + (0 + (i : Int))) 4 ?turnB ?finB)); (case' turnB => (intro i9 t9 I9 oI9 C9 oC9 D9 m9 ys9 h9 tk9 E9 hi9 hC9 hv9 lF9 lN9 off9 ne9; (try simp only [LCg.Off3, and_true] at off9))); (case' finB => (intro ys9 y9; (refine ex_elim5 (sym4 y9) ?_); (first | (k_extra "EPSON"; refine no_implicit_lambda% (all_eps5 (i := by k_extra "NE9") ?_); generalize pj0 _ = sr, pj1 _ = st0, pj2 _ = st1, pj3 _ = st2, pj4 _ = st3; intro e5) | intro sr st0 st1 st2 st3 e5); (obtain ⟨sr0, sr1, rfl⟩ := e5); clear y9)))
    | (k_dflt (refine' KeepSrc.mk (LCg.CompSrc.ledger ?khC ?kFC ?kNC ?kmC ?ksC ?ktC); (case khC => exact rfl); (case kFC => k_asm); (case kNC => k_asm); (case kmC => k_mem); (case ksC => decide)); (case' ktC => (intro g9; lcg_lit)))))
  (k_with "subscriptTail Name BinOp ref int" => (k_dflt (refine' my_sign2 ?N ?kl sg6 ?k0 ?k1 ?k2 ?k3 ?_; (case N => k_asm); (case kl => k_mem); (case k0 => exact sr0); (case k1 => exact sr1); (case k2 => omega); (case k3 => omega)); intro t8))
  (k_with "subscriptTail Name Name ref int" => (first
    | ((with_reducible show wpAny _ _ (subscriptTail (PySem.Expr.Name (PySem.Str.ofString "symbols") _) _ _ _) _ _ _); k_dflt (refine' my_sym ?N ?kl ?k1 ?k2 ?_; (case N => k_asm); (case kl => k_mem); (case k1 => omega); (case k2 => omega)); intro t8)
    | ((with_reducible show wpAny _ _ (subscriptTail (PySem.Expr.Name (PySem.Str.ofString "cells") _) _ _ _) _ _ _); k_dflt (refine' my_itemI ?N ?kl y8 ?k1 ?k2 ?k3 ?_; (case N => k_asm); (case kl => k_mem); (case k1 => omega); (case k2 => (rw [z8]; omega)); (case k3 => (rw [z8]; decide))); intro t8)))
  (k_with "subscriptTail Name Constant ref int" => (first
    | (k_dflt (refine' my_itemI ?N ?kl y8 ?k1 ?k2 ?k3 ?_; (case N => k_asm); (case kl => k_mem); (case k1 => omega); (case k2 => (rw [z8]; omega)); (case k3 => (rw [z8]; decide))); intro t8)))
  (k_with "call type:range" => ((with_reducible show wpAny _ _ _ (TokSrc _ _ _ _ _ _ _ _ _ _ _ _) _ _); (with_reducible refine wpAny_grow ?_)))
  (k_with "TokSrc" => (refine' TokSrc.intro (n := 6) MsgJ ?th ?tF ?tN ?tr ?tb ?ts ?tz ?t0 ?tturn ?tfin; (case th => exact rfl); (case tb => exact rfl); (case tF => k_asm); (case tN => k_asm); (case tr => assumption); (case ts => decide); (case tz => decide); (case t0 => ((rename_i hz9); exact MsgJ.start (Nat.le_trans (Nat.le_add_left 1 _) hz9))); (case' tturn => (intro g9; refine' ⟨?tturn2, MsgJ.mono⟩; intro i9 ys9 tk9 t9 I9 oI9 C9 oC9 D9 m9 h9 E9 hi9 hJ9 hC9 hv9 lF9 lN9 off9 ne9; (try simp only [LCg.Off3, and_true] at off9))); (case' tfin => (intro D9 h9 tk9 ys9 lF9 lN9 o9 hJ9; (try simp only [LCg.Off1, and_true] at o9); (refine ex_elim12 hJ9.six ?_); (first | (k_extra "EPSON"; refine no_implicit_lambda% (all_eps12 (i := by k_extra "NE9") ?_); generalize pj0 _ = p0, pj1 _ = p1, pj2 _ = p2, pj3 _ = p3, pj4 _ = p4, pj5 _ = p5, pj6 _ = pt0, pj7 _ = pt1, pj8 _ = pt2, pj9 _ = pt3, pj10 _ = pt4, pj11 _ = pt5; intro e5) | intro p0 p1 p2 p3 p4 p5 pt0 pt1 pt2 pt3 pt4 pt5 e5); (obtain ⟨rfl, hp9, ht9⟩ := e5); clear hJ9; (simp only [List.forall_mem_cons, nil_all, and_true] at hp9 ht9); (try dsimp only); (try k_fold)))))
  (k_with "compareOp NotEq ref ref" => (refine KeepX.out ?_))
  (k_with "exec For Name List cons nil" => (refine KeepX.out ?_))
  k_steps
  rotate_left
  · exact lF9
  · exact lN9
  · exact hJ9.next (Nat.le_add_right tk9 8) (Nat.le_add_right tk9 7) (Nat.lt_succ_self _)
  · exact ⟨⟨_, rfl⟩, rfl⟩
  · exact ⟨⟨_, rfl⟩, rfl⟩
  (rename News _ _ _ _ => N8); (rename Fr _ _ _ _ => F8)
  have N9 := sel18 N8
  have zi9 : IntsAre zv (kd z7) := by with_reducible assumption
  (rename (@LT.lt Nat _ _ _ ∧ @LT.lt Nat _ _ _ ∧ @LT.lt Nat _ _ _ ∧ @LT.lt Nat _ _ _ ∧ @LT.lt Nat _ _ _ ∧ @LT.lt Nat _ r7 _ ∧ _) => lM)
  (rename (@LT.lt Nat _ _ _ ∧ @LT.lt Nat _ _ _ ∧ @LT.lt Nat _ r7 _ ∧ _) => lS)
  (rename (@Ne Nat r8 _ ∧ @Ne Nat (L + 1 + 1 + 1 + 1 + 1) _ ∧ _) => lW)
  obtain ⟨_, _, _, _, _, _, _, _, _, _, m5, m4, _, _, _, m7, m2⟩ := lM
  obtain ⟨_, _, _, _, _, _, _, s5, s4, _, _, _, s7, s2⟩ := lS
  obtain ⟨_, w5, w4, _, _, _, w7, w2⟩ := lW
  obtain ⟨_, _, f5, f4, _, _, _, f7, f2⟩ := nf7
  obtain ⟨_, _, z5, z4, _, _, _, z7, z2⟩ := nz7
  obtain ⟨a5, a4, a7, a2⟩ := apart7 l0 ⟨m5, m4, m7, m2⟩ ⟨s5, s4, s7, s2⟩ ⟨f5, f4, f7, f2⟩ ⟨z5, z4, z7, z2⟩ ⟨w5, w4, w7, w2⟩
  refine hret _ _ _ _ _ _ _ _ _ _ _ _ _ _ _ _ _ _ _ _ _ _ _ _ _ _ _ _ _ _ _ _ _ _ _ _ _ _ _ _ _ _ _ _ _ _ _ _ _ _ F8 N9 a5 a4 a7 a2 (.head _) (.tail _ (.head _)) (.tail _ (.tail _ (.head _))) (.tail _ (.tail _ (.tail _ (.head _)))) (.tail _ (.tail _ (.tail _ (.tail _ (.head _))))) (.tail _ (.tail _ (.tail _ (.tail _ (.tail _ (.head _)))))) (.tail _ (.tail _ (.tail _ (.tail _ (.tail _ (.tail _ (.head _))))))) ?d1 ?d2 ⟨⟨fy7, zi9, ⟨x0, x1, x2, x3, x4, pm7.eq.1, pm7.eq.2, lm7.eq.1, lm7.eq.2, be7.eq.1, be7.eq.2⟩, sr0, sr1, ?ps, toks7 ht9⟩⟩
  case ps => (simp only [List.forall_mem_cons, nil_all, and_true]; exact hp9)
  case d1 => assumption
  case d2 => assumption

end
section
theorem words_lawB : True := by
  k_with_none
  (k_with "CJ" => (with_reducible first | assumption | exact cj0 ‹_› | exact cj1 ‹_› | exact cl1 ‹_› | exact cj2 ‹_› | exact cl2 ‹_› | exact cj3 ‹_› | exact cl3 ‹_› | exact cj4 ‹_› | exact cl4 ‹_› | exact cj5 ‹_› | exact cl5 ‹_› | exact cj6 ‹_› | exact cl6 ‹_› | exact cj7 ‹_› | exact cl7 ‹_› | exact cj8 ‹_› | exact cl8 ‹_› | exact cj9 ‹_› | exact cl9 ‹_› | exact cj10 ‹_› | exact cl10 ‹_› | exact cj11 ‹_› | exact cl11 ‹_› | exact cj12 ‹_› | exact cl12 ‹_›))
  (k_with "k_ne" => (((refine neN ?_); (try dsimp only); first | exact Nat.ne_of_gt (by k_extra "CJ") | exact Nat.ne_of_lt (by k_extra "CJ") | k_extra "CJ" | exact Ne.symm (by k_extra "CJ"))))
  (k_with "ktr_room" => (first | exact rm0 ‹_› | exact rm1 ‹_› rfl | exact rm2 ‹_› rfl | exact rm3 ‹_› rfl))
  (k_with "ktr_units" => (first | exact rm0 ‹_› | exact rm1 ‹_› rfl | exact rm2 ‹_› rfl | exact rm3 ‹_› rfl))
  (k_with "k_mem" => (first | exact List.Mem.head _ | (refine' List.Mem.tail _ ?_; k_mem) | (show (_ : Addr × Obj) ∈ (_ : List (Addr × Obj)); with_reducible assumption)))
  (k_with "callWith ref" => ((k_here; k_dflt (first | (refine' callWith_K ?zzk1 ?zzk2 ?_; (case zzk1 => k_asm); (case zzk2 => k_is); k_whole) | (refine' callWith_KW ?zzk1 ?zzk2 ?zzk3 ?_; (case zzk1 => k_asm); (case zzk2 => k_is); (case zzk3 => exact rfl); k_whole)))))
  (k_with "call builtin:len" => ((k_here; (with_reducible show wpAny _ _ (call (Value.builtin "len") [Value.ref _]) _ _ _); k_dflt (refine' my_len ?zzk1 ?zzk2 ?zzk3 ?_; (case zzk1 => k_asm); (case zzk2 => k_mem); (case zzk3 => first | assumption | omega); k_whole))))
  (k_with "callWith ref" => ((k_here; k_dflt (refine' callWith_Fn1 ?zzkf ?_; (case zzkf => with_reducible assumption); k_whole))))
  (k_with "And" => (((with_reducible show IsFn _ _ ∧ _); refine ⟨KeyFn.get (by with_reducible assumption) (by k_in) (by k_asm), ?_⟩; try dsimp only [List.nil_append, List.cons_append])))
  (k_with "CompEnd" => ((k_dflt (refine' compEnd_same ?zzF ?zzN ?zzoff ?zzsrc ?_; (case zzF => k_asm); (case zzN => k_asm); (case zzoff => first | assumption | ((simp only [LCg.Off3, and_true]); first | done | assumption)); (case zzsrc => lcg_src)))))
  (k_with "k_all" => (first | (with_reducible assumption) | exact List.forall_mem_nil _ | (refine' List.forall_mem_cons.mpr ⟨?zzka, ?zzkb⟩; (case zzka => k_ne); (case zzkb => k_all))))
  (k_with "CompSrc" => ((k_here; k_dflt (refine KeepSrc.out ?_))))
  (k_with "binaryOp Pow int int" => ((k_here; (with_reducible refine pow_int_small ?zzkb1 ?zzkb2 ?zzkb3 ?_); (case zzkb1 => omega); (case zzkb2 => omega); (case zzkb3 => decide))))
  (k_with "binaryOp FloorDiv int int" => ((k_here; (with_reducible refine floordiv_int ?zzkb1 ?_ (Or.inl (PyProof.noPylong_small ?zzkb2))); (case zzkb1 => exact pow4_ne _); (case zzkb2 => exact pow4_small (by assumption)))))
  (k_with "eval ListComp" => ((k_here; k_dflt (first
  | ((with_reducible show wpAny _ _ (eval (PySem.Expr.ListComp (PySem.Expr.BinOp _ _ (PySem.Expr.Constant _ _ _) _) _ _ _) _) _ _ _); (rename Fr _ _ _ _ => lFt); (refine ListComp_tok (h₀ := ghostIs lFt) (L := frameIs lFt) (m := localsIs lFt) (by with_unfolding_all rfl) (by decide) (by rfl) (by decide) (by rfl) ?_); (try dsimp only [ghostIs, frameIs, localsIs]))
  | ((with_reducible show wpAny _ _ (eval (PySem.Expr.ListComp _ [⟨PySem.Expr.Name _ _, _, _, _⟩] _ _) _) _ _ _); refine LCg.ListComp_U (F₀ := by k_asm) (by with_unfolding_all rfl) (by decide) (by rfl) (by decide) (by rfl) ?_)))))
  (k_with "execs cons" => (((with_reducible refine execs_grow ?_); try dsimp only)))
  (k_with "Grown" => ((refine Grown.intro fun hg9 => ?_; (try dsimp only at hg9))))
  exact True.intro
theorem ne_two {prog : Program} {w : World} {A : Around} {E : Value → Shared → Prop} {s : Shared} {h₀ : Heap} {L a b : Addr} {news : List (Addr × Obj)} {us vs : List Value} {ns : List Int} {c c2 : Nat} {Q : Value → Shared → Prop}
    (N : News h₀ L s.heap news) (ha : (a, listOf us.toArray c) ∈ news) (hb : (b, listOf vs.toArray c2) ∈ news) (hi : IntsAre us ns) (hj : IntsAre vs ns) (hu : A.units + 64 < cLine) (h : Q (.bool false) s) :
    wpAny (model prog w) A (compareOp .NotEq (.ref a) (.ref b)) Q E s :=
  ke_ne_ints ⟨_, (N _ ha).1, rfl, c, rfl⟩ ⟨_, (N _ hb).1, rfl, c2, rfl⟩ hi hj hu (by simpa using h)
theorem sgn_val {r p : Int} (r0 : 0 ≤ r) (h1 : 1 ≤ p) : ((sgn r p : Nat) : Int) + 7 = r + 6 + p := by unfold sgn; omega
theorem nums6 {r p0 p1 p2 p3 p4 p5 : Int} {us : List Value} (r0 : 0 ≤ r) (hp : ∀ p ∈ [p0, p1, p2, p3, p4, p5], 1 ≤ p ∧ p ≤ 4) (h : IntsAre us ([sgn r p0, sgn r p1, sgn r p2, sgn r p3, sgn r p4, sgn r p5].map fun n : Nat => (n : Int) + 7)) : IntsAre us [r + 6 + p0, r + 6 + p1, r + 6 + p2, r + 6 + p3, r + 6 + p4, r + 6 + p5] := by
  simp only [List.forall_mem_cons, nil_all, and_true] at hp
  simp only [List.map_cons, List.map_nil] at h
  rw [sgn_val r0 hp.1.1, sgn_val r0 hp.2.1.1, sgn_val r0 hp.2.2.1.1, sgn_val r0 hp.2.2.2.1.1, sgn_val r0 hp.2.2.2.2.1.1, sgn_val r0 hp.2.2.2.2.2.1] at h
  exact h
theorem words_lawB_1 : True := by
  (k_with "subscriptTail Name Slice ref ref" => ((k_here; (with_reducible show wpAny _ _ (subscriptTail _ (PySem.Expr.Slice _ _ none _) (Value.ref _) (Value.ref _)) _ _ _); k_dflt (refine' my_slice_lit ?zzF ?zzN ?zzl ?zzp ?zzq ?zze ?zzz ?_ ?zzs ?zzt; (case zzF => k_asm); (case zzN => k_asm); (case zzl => k_mem); (case zzp => kmk_part); (case zzq => kmk_part); (case zze => kl_lit); (case zzz => decide); (case zzs => with_unfolding_all rfl); (case zzt => kmk_pure)); intro D' h' F' N' l1; (try k_lt l1); (try k_sweep))))
  (k_with "SUBL" => ((intros p9 h9; (repeat (first | exact h9 | refine List.Mem.tail _ ?_)))))
  exact True.intro
theorem law_b {prog : Program} {w : World} {loose : List Str} {mean : ExcName → Option Value} {mg mb : Str → Option Value} {g : Heap} {L : Nat} {f₀ : Addr} {cd : Value} {scope : Scope} {rest : List Stmt} {s0 s1 s2 s3 s4 s5 s6 s7 : Stmt} {s : Shared} {l : Addr} {Q : Flow → Shared → Prop} {E : Value → Shared → Prop}
    {Z : List (Addr × Obj)} {MS SY fa za : Addr} {o3 o4 o5 : Obj} {v4 : Option Value} {c0 c1 : Nat} {M : Int} {Mt : Tok} {r : Int} {st0 st1 st2 st3 st4 : Tok} {p0 p1 p2 p3 p4 p5 : Int} {pt0 pt1 pt2 pt3 pt4 pt5 pt6 : Nat}
    (hS : fnScope w.params 213 = some scope) (hBd : fnBody w.params 213 = s0 :: s1 :: s2 :: s3 :: s4 :: s5 :: s6 :: s7 :: rest)
    (B : Below callerA g [] g) (X : (hd.heap_39 w.params).In g) (T : Top topProg loose mean mg mb g) (F : Fr g L s.heap (fun y => if y = "message" then some (.ref MS) else if y = "steepest" then some (.ref za) else if y = "flattest" then some (.ref fa) else if y = "least" then some (.int M Mt) else if y = "script" then some (.ref l) else none))
    (N : News g L s.heap (((L + 1 + 1 + 1 + 1 + 1 : Nat), o5) :: ((L + 1 + 1 + 1 + 1 : Nat), o4) :: (177, tabObj #[]) :: (172, tabObj #[]) :: Z)) (d4 : o4.data = .cell v4) (a5 : ∀ p ∈ Z, @Ne Nat p.1 (L + 1 + 1 + 1 + 1 + 1 : Nat)) (a4 : ∀ p ∈ Z, @Ne Nat p.1 (L + 1 + 1 + 1 + 1 : Nat)) (a7 : ∀ p ∈ Z, @Ne Nat p.1 177) (a2 : ∀ p ∈ Z, @Ne Nat p.1 172) (l0 : (177 : Nat) < L ∧ (172 : Nat) < L)
    (hM : (MS, listOf (List.toArray [.int p0 pt0, .int p1 pt1, .int p2 pt2, .int p3 pt3, .int p4 pt4, .int p5 pt5, .int 0 pt6]) c0) ∈ Z) (hSY : (SY, listOf (List.toArray [.int 0 st0, .int (r + 7) st1, .int (r + 8) st2, .int (r + 9) st3, .int (r + 10) st4]) c1) ∈ Z) (hc3 : ((L + 1 + 1 + 1 : Nat), o3) ∈ Z) (d3 : o3.data = .cell (some (.ref SY))) (r0 : 0 ≤ r) (r1 : r < 45) (hps : Sealed (∀ p ∈ [p0, p1, p2, p3, p4, p5], 1 ≤ p ∧ p ≤ 4))
    (hPE : PassesOwn (model prog w) (callerA.deeper (envOfC "law" scope L f₀ cd)) (envOfC "law" scope L f₀ cd) E)
    (hret : ∀ (h' : Heap) (tk' : Nat) (Z' : List (Addr × Obj)) (NB : Addr) (av : List Value) (cn : Nat),
      Fr g L h' (fun y => if y = "numbers" then some (.ref NB) else if y = "message" then some (.ref MS) else if y = "steepest" then some (.ref za) else if y = "flattest" then some (.ref fa) else if y = "least" then some (.int M Mt) else if y = "script" then some (.ref l) else none) → News g L h' (((L + 1 + 1 + 1 + 1 + 1 : Nat), o5) :: (177, tabObj #[]) :: (172, tabObj #[]) :: Z') → (∀ p ∈ Z, p ∈ Z') → (∀ p ∈ Z', @Ne Nat p.1 (L + 1 + 1 + 1 + 1 + 1 : Nat)) → (∀ p ∈ Z', @Ne Nat p.1 177) → (∀ p ∈ Z', @Ne Nat p.1 172) → (NB, listOf (List.toArray av) cn) ∈ Z' → IntsAre av [r + 6 + p0, r + 6 + p1, r + 6 + p2, r + 6 + p3, r + 6 + p4, r + 6 + p5] → s.toks ≤ tk' →
      wpAny (model prog w) (callerA.deeper (envOfC "law" scope L f₀ cd)) (execs rest (envOfC "law" scope L f₀ cd)) Q E { s with heap := h', toks := tk' }) :
    wpAny (model prog w) (callerA.deeper (envOfC "law" scope L f₀ cd)) (execs (s5 :: s6 :: s7 :: rest) (envOfC "law" scope L f₀ cd)) Q E s := by
  k_with "EPSON" => skip
  k_with "NE9" => repeat (with_reducible first | exact neSh | exact neAr | exact neEx | exact neWo | refine neP ?_ ?_ | infer_instance)
  k_with "RangeRest" => first
    | ((with_unfolding_all refine RangeRest.succ ?_); intro t' h' tk' F' N')
    | ((with_unfolding_all refine RangeRest.zero ?_); intro h' tk' F' N')
  k_with "CompRest" => first
    | ((with_unfolding_all refine LCg.CompRest.succ ?_); (first | (k_extra "EPSON"; refine no_implicit_lambda% (all_eps10 (i := by k_extra "NE9") ?_); generalize pj0 _ = v', pj1 _ = I', pj2 _ = oI', pj3 _ = C', pj4 _ = oC', pj5 _ = D', pj6 _ = m', pj7 _ = h', pj8 _ = tk', pj9 _ = E'; intro hv' hC' hx' F' N' off' ne') | intro v' I' oI' C' oC' D' m' h' tk' E' hv' hC' hx' F' N' off' ne'); (first | lcg_open hv' | (refine ex_elim hv' ?_; clear hv'; intro t9' hv9'; subst hv9')); (try simp only [LCg.Off3, and_true] at off'))
    | with_unfolding_all refine LCg.CompRest.zero ?_
  k_with "EPS1" => (refine no_implicit_lambda% (all_eps (i := by k_extra "NE9") ?_); generalize eps _ _ = xE9)
  k_with "EPSCELLS" => first
    | (have hY := PyProof.Rows.CellsAre.one Y'; refine ex_elim hY ?_; clear hY; intro o' hE'; obtain ⟨hE', d1'⟩ := hE'; subst hE'; clear Y')
    | (have hY := PyProof.Rows.CellsAre.two Y'; refine ex_elim hY ?_; clear hY; intro o' hY; refine ex_elim hY ?_; clear hY; intro o2' hY; obtain ⟨hE', d1', d2'⟩ := hY; subst hE'; clear Y')
    | (have hY := PyProof.Rows.CellsAre.three Y'; refine ex_elim hY ?_; clear hY; intro o' hY; refine ex_elim hY ?_; clear hY; intro o2' hY; refine ex_elim hY ?_; clear hY; intro o3' hY; obtain ⟨hE', d1', d2', d3'⟩ := hY; subst hE'; clear Y')
  k_with "EPSENT" => skip
  revert hS hBd B X T F N d4 a5 a4 a7 a2 l0 hM hSY hc3 d3 r0 r1 hps hPE hret
  revert prog w loose mean mg mb g L f₀ cd scope rest s0 s1 s2 s3 s4 s5 s6 s7 s l Q E Z MS SY fa za o3 o4 o5 v4 c0 c1 M Mt r st0 st1 st2 st3 st4 p0 p1 p2 p3 p4 p5 pt0 pt1 pt2 pt3 pt4 pt5 pt6
  refine no_implicit_lambda% (all_eps24 (i := by k_extra "NE9") ?_); generalize pj0 _ = prog, pj1 _ = w, pj2 _ = loose, pj3 _ = mean, pj4 _ = mg, pj5 _ = mb, pj6 _ = g, pj7 _ = L, pj8 _ = f₀, pj9 _ = cd, pj10 _ = scope, pj11 _ = rest, pj12 _ = s0, pj13 _ = s1, pj14 _ = s2, pj15 _ = s3, pj16 _ = s4, pj17 _ = s5, pj18 _ = s6, pj19 _ = s7, pj20 _ = s, pj21 _ = l, pj22 _ = Q, pj23 _ = E; refine no_implicit_lambda% (all_eps24 (i := by k_extra "NE9") ?_); generalize pj0 _ = Z, pj1 _ = MS, pj2 _ = SY, pj3 _ = fa, pj4 _ = za, pj5 _ = o3, pj6 _ = o4, pj7 _ = o5, pj8 _ = v4, pj9 _ = c0, pj10 _ = c1, pj11 _ = M, pj12 _ = Mt, pj13 _ = r, pj14 _ = st0, pj15 _ = st1, pj16 _ = st2, pj17 _ = st3, pj18 _ = st4, pj19 _ = p0, pj20 _ = p1, pj21 _ = p2, pj22 _ = p3, pj23 _ = p4; refine no_implicit_lambda% (all_eps8 (i := by k_extra "NE9") ?_); generalize pj0 _ = p5, pj1 _ = pt0, pj2 _ = pt1, pj3 _ = pt2, pj4 _ = pt3, pj5 _ = pt4, pj6 _ = pt5, pj7 _ = pt6
  intros hS hBd B X T F N d4 a5 a4 a7 a2 l0 hM hSY hc3 d3 r0 r1 hps hPE hret
  injection (show some _ = some scope from hS) with e0
  subst e0
  injection (show _ :: _ = s0 :: s1 :: s2 :: s3 :: s4 :: s5 :: s6 :: s7 :: rest from hBd) with e0 e1
  injection e1 with e1 e2
  injection e2 with e2 e3
  injection e3 with e3 e4
  injection e4 with e4 e5
  injection e5 with e5 e6
  injection e6 with e6 e7
  injection e7 with e7 e8
  subst e5 e6 e7
  clear hS hBd e0 e1 e2 e3 e4 e8
  (have hp9 := hps.eq)
  (simp only [List.forall_mem_cons, nil_all, and_true] at hp9)
  k_with_none
  (k_with "CJ" => (with_reducible first | assumption | exact cj0 ‹_› | exact cj1 ‹_› | exact cl1 ‹_› | exact cj2 ‹_› | exact cl2 ‹_› | exact cj3 ‹_› | exact cl3 ‹_› | exact cj4 ‹_› | exact cl4 ‹_› | exact cj5 ‹_› | exact cl5 ‹_› | exact cj6 ‹_› | exact cl6 ‹_› | exact cj7 ‹_› | exact cl7 ‹_› | exact cj8 ‹_› | exact cl8 ‹_› | exact cj9 ‹_› | exact cl9 ‹_› | exact cj10 ‹_› | exact cl10 ‹_› | exact cj11 ‹_› | exact cl11 ‹_› | exact cj12 ‹_› | exact cl12 ‹_›))
  (k_with "k_ne" => (((refine neN ?_); (try dsimp only); first | exact Nat.ne_of_gt (by k_extra "CJ") | exact Nat.ne_of_lt (by k_extra "CJ") | k_extra "CJ" | exact Ne.symm (by k_extra "CJ"))))
  (k_with "ktr_room" => (first | exact rm0 ‹_› | exact rm1 ‹_› rfl | exact rm2 ‹_› rfl | exact rm3 ‹_› rfl))
  (k_with "ktr_units" => (first | exact rm0 ‹_› | exact rm1 ‹_› rfl | exact rm2 ‹_› rfl | exact rm3 ‹_› rfl))
  (k_with "k_mem" => (first | exact List.Mem.head _ | (refine' List.Mem.tail _ ?_; k_mem) | (show (_ : Addr × Obj) ∈ (_ : List (Addr × Obj)); with_reducible assumption)))
  (k_with "callWith ref" => ((k_here; k_dflt (first | (refine' callWith_K ?zzk1 ?zzk2 ?_; (case zzk1 => k_asm); (case zzk2 => k_is); k_whole) | (refine' callWith_KW ?zzk1 ?zzk2 ?zzk3 ?_; (case zzk1 => k_asm); (case zzk2 => k_is); (case zzk3 => exact rfl); k_whole)))))
  (k_with "call builtin:len" => ((k_here; (with_reducible show wpAny _ _ (call (Value.builtin "len") [Value.ref _]) _ _ _); k_dflt (refine' my_len ?zzk1 ?zzk2 ?zzk3 ?_; (case zzk1 => k_asm); (case zzk2 => k_mem); (case zzk3 => first | assumption | omega); k_whole))))
  (k_with "callWith ref" => ((k_here; k_dflt (refine' callWith_Fn1 ?zzkf ?_; (case zzkf => with_reducible assumption); k_whole))))
  (k_with "And" => (((with_reducible show IsFn _ _ ∧ _); refine ⟨KeyFn.get (by with_reducible assumption) (by k_in) (by k_asm), ?_⟩; try dsimp only [List.nil_append, List.cons_append])))
  (k_with "CompEnd" => ((k_dflt (refine' compEnd_same ?zzF ?zzN ?zzoff ?zzsrc ?_; (case zzF => k_asm); (case zzN => k_asm); (case zzoff => first | assumption | ((simp only [LCg.Off3, and_true]); first | done | assumption)); (case zzsrc => lcg_src)))))
  (k_with "k_all" => (first | (with_reducible assumption) | exact List.forall_mem_nil _ | (refine' List.forall_mem_cons.mpr ⟨?zzka, ?zzkb⟩; (case zzka => k_ne); (case zzkb => k_all))))
  (k_with "CompSrc" => ((k_here; k_dflt (refine KeepSrc.out ?_))))
  (k_with "binaryOp Pow int int" => ((k_here; (with_reducible refine pow_int_small ?zzkb1 ?zzkb2 ?zzkb3 ?_); (case zzkb1 => omega); (case zzkb2 => omega); (case zzkb3 => decide))))
  (k_with "binaryOp FloorDiv int int" => ((k_here; (with_reducible refine floordiv_int ?zzkb1 ?_ (Or.inl (PyProof.noPylong_small ?zzkb2))); (case zzkb1 => exact pow4_ne _); (case zzkb2 => exact pow4_small (by assumption)))))
  (k_with "eval ListComp" => ((k_here; k_dflt (first
  | ((with_reducible show wpAny _ _ (eval (PySem.Expr.ListComp (PySem.Expr.BinOp _ _ (PySem.Expr.Constant _ _ _) _) _ _ _) _) _ _ _); (rename Fr _ _ _ _ => lFt); (refine ListComp_tok (h₀ := ghostIs lFt) (L := frameIs lFt) (m := localsIs lFt) (by with_unfolding_all rfl) (by decide) (by rfl) (by decide) (by rfl) ?_); (try dsimp only [ghostIs, frameIs, localsIs]))
  | ((with_reducible show wpAny _ _ (eval (PySem.Expr.ListComp _ [⟨PySem.Expr.Name _ _, _, _, _⟩] _ _) _) _ _ _); refine LCg.ListComp_U (F₀ := by k_asm) (by with_unfolding_all rfl) (by decide) (by rfl) (by decide) (by rfl) ?_)))))
  (k_with "execs cons" => (((with_reducible refine execs_grow ?_); try dsimp only)))
  (k_with "Grown" => ((refine Grown.intro fun hg9 => ?_; (try dsimp only at hg9))))
  (k_with "subscriptTail Name Slice ref ref" => ((k_here; (with_reducible show wpAny _ _ (subscriptTail _ (PySem.Expr.Slice _ _ none _) (Value.ref _) (Value.ref _)) _ _ _); k_dflt (refine' my_slice_lit ?zzF ?zzN ?zzl ?zzp ?zzq ?zze ?zzz ?_ ?zzs ?zzt; (case zzF => k_asm); (case zzN => k_asm); (case zzl => k_mem); (case zzp => kmk_part); (case zzq => kmk_part); (case zze => kl_lit); (case zzz => decide); (case zzs => with_unfolding_all rfl); (case zzt => kmk_pure)); intro D' h' F' N' l1; (try k_lt l1); (try k_sweep))))
  (k_with "SUBL" => ((intros p9 h9; (repeat (first | exact h9 | refine List.Mem.tail _ ?_)))))
  (k_with "callWith ref" => ((with_reducible show wpAny _ _ (callWith _ (Value.ref _) _ (backTo _ (starEach [] _)) []) _ _ _); k_dflt (refine' callWith_K0 ?kw1 ?kw2 ?_; (case kw1 => k_in); (case kw2 => k_is)); (try dsimp only [List.append_nil])))
  (k_with "call ref" => (first
    | ((with_reducible show wpAny _ _ (call (Value.ref 144) _) _ _ _); k_dflt (refine' c_signs ?k1 ?k2 ?k3 ?k4 ?k5 ?kK ?kd ?ku ?_; (case k1 => k_asm); (case k2 => k_asm); (case k3 => k_asm); (case k4 => k_asm); (case k5 => k_asm); (case kK => exact rfl); (case kd => ktr_room); (case ku => ktr_units); k_whole); intro r6 sl6 c6 h6 tk6 F6 N6 l6 sg6; (try k_lt l6); (try dsimp only); (try k_fold))
    | ((with_reducible show wpAny _ _ (call (Value.ref 151) _) _ _ _); k_dflt (refine' c_cut ?k1 ?k2 ?k3 ?k4 ?k5 ?kK ?kd ?ku ct5 lx5 ?kl ?_; (case k1 => k_asm); (case k2 => k_asm); (case k3 => k_asm); (case k4 => k_asm); (case k5 => k_asm); (case kK => exact rfl); (case kd => ktr_room); (case ku => ktr_units); (case kl => exact (show 6 < 100 by decide)); k_whole); intro NB av4 cn4 h4 tk4 F4 N4 lB4 y4; (have y5 := nums6 r0 hps.eq y4); clear y4; (try dsimp only); (try k_fold))))
  (k_with "call builtin:str.join" => (k_dflt (refine' my_join ?N ?kl ?kx r1 ?h0 ?h1 ?h2 ?h3 ?h4 ?h5 ?_; (case N => k_asm); (case kl => k_mem); (case kx => decide +kernel); (case h0 => exact hp9.1.2); (case h1 => exact hp9.2.1.2); (case h2 => exact hp9.2.2.1.2); (case h3 => exact hp9.2.2.2.1.2); (case h4 => exact hp9.2.2.2.2.1.2); (case h5 => exact hp9.2.2.2.2.2.2)); intro x5 xt5 xk5 lx5 ct5; (try dsimp only)))
  (k_with "KeepSrc" => (first
    | (k_dflt (refine' KeepSrc.mk (LCg.CompSrc.ledger ?khC ?kFC ?kNC ?kmC ?ksC ?ktC); (case khC => exact rfl); (case kFC => k_asm); (case kNC => k_asm); (case kmC => k_mem); (case ksC => exact (show 6 ≤ sizeLine by decide))); (case' ktC => (intro g9; lcg_lit)))
    | (k_dflt (refine' KeepSrc.mk (LCg.CompSrc.ledger ?khD ?kFD ?kND ?kmD ?ksD ?ktD); (case khD => exact rfl); (case kFD => k_asm); (case kND => k_asm); (case kmD => k_mem); (case ksD => exact (show 6 ≤ sizeLine by decide))); (case' ktD => (intro g9; lcg_lit)))))
  (k_with "subscriptTail Name BinOp ref int" => (k_dflt (refine' my_sign2 ?N ?kl sg6 ?k0 ?k1 ?k2 ?k3 ?_; (case N => k_asm); (case kl => k_mem); (case k0 => exact r0); (case k1 => exact r1); (case k2 => omega); (case k3 => omega)); intro t8))
  (k_with "subscriptTail Name Name ref int" => (k_dflt (refine' my_sym ?N ?kl ?k1 ?k2 ?_; (case N => k_asm); (case kl => k_mem); (case k1 => omega); (case k2 => omega)); intro t8))
  (k_with "compareOp NotEq ref ref" => (k_dflt (refine' ne_two ?N ?ka ?kb y5 ?kj ?ku ?_; (case N => k_asm); (case ka => k_mem); (case kb => k_mem); (case kj => exact .cons _ _ (.cons _ _ (.cons _ _ (.cons _ _ (.cons _ _ (.cons _ _ .nil)))))); (case ku => ktr_units))))
  k_steps
  (rename News _ _ _ _ => N8); (rename Fr _ _ _ _ => F8)
  have lt9 : ∀ (a : Nat) (o : Obj), _ → a < NB := fun a o hm => lB4 (a, o) hm
  have M5 : @Ne Nat NB (L + 1 + 1 + 1 + 1 + 1 : Nat) := Nat.ne_of_gt (lt9 _ o5 (by k_mem))
  have M7 : @Ne Nat NB 177 := Nat.ne_of_gt (lt9 _ (tabObj #[]) (by k_mem))
  have M2 : @Ne Nat NB 172 := Nat.ne_of_gt (lt9 _ (tabObj #[]) (by k_mem))
  exact hret _ _ ((NB, listOf av4.toArray cn4) :: Z) NB av4 cn4 F8 (news_sub N8 (List.forall_mem_cons.mpr ⟨by k_mem, List.forall_mem_cons.mpr ⟨by k_mem, List.forall_mem_cons.mpr ⟨by k_mem, List.forall_mem_cons.mpr ⟨by k_mem, by walk_at "SUBL"⟩⟩⟩⟩)) (fun p hp => .tail _ hp) (List.forall_mem_cons.mpr ⟨M5, a5⟩) (List.forall_mem_cons.mpr ⟨M7, a7⟩) (List.forall_mem_cons.mpr ⟨M2, a2⟩) (.head _) y5 (Nat.le_trans (show s.toks ≤ tk6 by assumption) (Nat.le_trans (show tk6 ≤ tk4 + 1 by assumption) (by assumption)))

end
section
theorem words_lawT : True := by
  k_with_none
  (k_with "CJ" => (with_reducible first | assumption | exact cj0 ‹_› | exact cj1 ‹_› | exact cl1 ‹_› | exact cj2 ‹_› | exact cl2 ‹_› | exact cj3 ‹_› | exact cl3 ‹_› | exact cj4 ‹_› | exact cl4 ‹_› | exact cj5 ‹_› | exact cl5 ‹_› | exact cj6 ‹_› | exact cl6 ‹_› | exact cj7 ‹_› | exact cl7 ‹_› | exact cj8 ‹_› | exact cl8 ‹_› | exact cj9 ‹_› | exact cl9 ‹_› | exact cj10 ‹_› | exact cl10 ‹_› | exact cj11 ‹_› | exact cl11 ‹_› | exact cj12 ‹_› | exact cl12 ‹_›))
  (k_with "k_ne" => (((refine neN ?_); (try dsimp only); first | exact Nat.ne_of_gt (by k_extra "CJ") | exact Nat.ne_of_lt (by k_extra "CJ") | k_extra "CJ" | exact Ne.symm (by k_extra "CJ"))))
  (k_with "ktr_room" => (first | exact rm0 ‹_› | exact rm1 ‹_› rfl | exact rm2 ‹_› rfl | exact rm3 ‹_› rfl))
  (k_with "ktr_units" => (first | exact rm0 ‹_› | exact rm1 ‹_› rfl | exact rm2 ‹_› rfl | exact rm3 ‹_› rfl))
  (k_with "k_mem" => (first | exact List.Mem.head _ | (refine' List.Mem.tail _ ?_; k_mem) | (show (_ : Addr × Obj) ∈ (_ : List (Addr × Obj)); with_reducible assumption)))
  (k_with "callWith ref" => ((k_here; k_dflt (first | (refine' callWith_K ?zzk1 ?zzk2 ?_; (case zzk1 => k_asm); (case zzk2 => k_is); k_whole) | (refine' callWith_KW ?zzk1 ?zzk2 ?zzk3 ?_; (case zzk1 => k_asm); (case zzk2 => k_is); (case zzk3 => exact rfl); k_whole)))))
  (k_with "call builtin:len" => ((k_here; (with_reducible show wpAny _ _ (call (Value.builtin "len") [Value.ref _]) _ _ _); k_dflt (refine' my_len ?zzk1 ?zzk2 ?zzk3 ?_; (case zzk1 => k_asm); (case zzk2 => k_mem); (case zzk3 => first | assumption | omega); k_whole))))
  (k_with "callWith ref" => ((k_here; k_dflt (refine' callWith_Fn1 ?zzkf ?_; (case zzkf => with_reducible assumption); k_whole))))
  (k_with "And" => (((with_reducible show IsFn _ _ ∧ _); refine ⟨KeyFn.get (by with_reducible assumption) (by k_in) (by k_asm), ?_⟩; try dsimp only [List.nil_append, List.cons_append])))
  (k_with "CompEnd" => ((k_dflt (refine' compEnd_same ?zzF ?zzN ?zzoff ?zzsrc ?_; (case zzF => k_asm); (case zzN => k_asm); (case zzoff => first | assumption | ((simp only [LCg.Off3, and_true]); first | done | assumption)); (case zzsrc => lcg_src)))))
  (k_with "k_all" => (first | (with_reducible assumption) | exact List.forall_mem_nil _ | (refine' List.forall_mem_cons.mpr ⟨?zzka, ?zzkb⟩; (case zzka => k_ne); (case zzkb => k_all))))
  (k_with "CompSrc" => ((k_here; k_dflt (refine KeepSrc.out ?_))))
  (k_with "binaryOp Pow int int" => ((k_here; (with_reducible refine pow_int_small ?zzkb1 ?zzkb2 ?zzkb3 ?_); (case zzkb1 => omega); (case zzkb2 => omega); (case zzkb3 => decide))))
  (k_with "binaryOp FloorDiv int int" => ((k_here; (with_reducible refine floordiv_int ?zzkb1 ?_ (Or.inl (PyProof.noPylong_small ?zzkb2))); (case zzkb1 => exact pow4_ne _); (case zzkb2 => exact pow4_small (by assumption)))))
  (k_with "eval ListComp" => ((k_here; k_dflt (first
  | ((with_reducible show wpAny _ _ (eval (PySem.Expr.ListComp (PySem.Expr.BinOp _ _ (PySem.Expr.Constant _ _ _) _) _ _ _) _) _ _ _); (rename Fr _ _ _ _ => lFt); (refine ListComp_tok (h₀ := ghostIs lFt) (L := frameIs lFt) (m := localsIs lFt) (by with_unfolding_all rfl) (by decide) (by rfl) (by decide) (by rfl) ?_); (try dsimp only [ghostIs, frameIs, localsIs]))
  | ((with_reducible show wpAny _ _ (eval (PySem.Expr.ListComp _ [⟨PySem.Expr.Name _ _, _, _, _⟩] _ _) _) _ _ _); refine LCg.ListComp_U (F₀ := by k_asm) (by with_unfolding_all rfl) (by decide) (by rfl) (by decide) (by rfl) ?_)))))
  (k_with "execs cons" => (((with_reducible refine execs_grow ?_); try dsimp only)))
  (k_with "Grown" => ((refine Grown.intro fun hg9 => ?_; (try dsimp only at hg9))))
  exact True.intro
abbrev turnS : List Str := ["behind", "order", "starts", "number", "size"]
noncomputable def turnBody : Stmt → List Stmt
  | .For _ _ b _ _ => b
  | _ => []
noncomputable def lawTurn (P : Params) : List Stmt := match nthStmt (fnBody P 213) 8 with
  | some (.For _ _ b _ _) => b
  | _ => []
theorem kd_sorted (k : Nat) : (kd k).Pairwise (fun a b => a ≤ b) := by
  match k with
  | 0 => decide
  | 1 => decide
  | 2 => decide
  | k + 3 => exact List.Pairwise.nil
theorem my_sortedK {prog : Program} {w : World} {A : Around} {E : Value → Shared → Prop} {s : Shared} {h₀ : Heap} {L l : Addr} {m : Str → Option Value} {news : List (Addr × Obj)} {us : List Value} {ls : List Int} {k c : Nat} {Q : Value → Shared → Prop} (F : Fr h₀ L s.heap m) (N : News h₀ L s.heap news) (hl : (l, listOf us.toArray c) ∈ news) (hi : IntsAre us ls) (h5 : ls.length = 5) (hp : ls.Perm (kd k))
    (h : ∀ D vs' c h', Fr h₀ L h' m → News h₀ L h' ((D, listOf (List.toArray vs') c) :: news) → (∀ q ∈ news, q.1 < D) → IntsAre vs' (kd k) → Q (.ref D) { s with heap := h' }) :
    wpAny (model prog w) A (call (.builtin "sorted") [.ref l]) Q E s :=
  kso_sorted F N ⟨_, (N _ hl).1, rfl, c, rfl⟩ hi (by rw [h5]; decide) fun D vs' ns' c' h' F' N' lt i' _ p' o' _ => by
    have e := sorted_eq (p'.trans hp) o' (kd_sorted k)
    rw [e] at i'
    exact h D vs' c' h' F' N' lt i'
theorem mul_R {prog : Program} {w : World} {A : Around} {E : Value → Shared → Prop} {s : Shared} {a b : Int} {t u : Tok} {Q : Value → Shared → Prop} (hb : b.natAbs < 2 ^ 64) (h : Q (.int (a * b) s.toks) { s with toks := s.toks + 1 }) : wpAny (model prog w) A (binaryOp .Mult (.int a t) (.int b u)) Q E s :=
  PyProof.Rows.mul_int h (IntMulOk.of_right (PySem.intBits_le_iff.mpr hb))
theorem getD_small {ls : List Int} (h : ∀ x ∈ ls, 1 ≤ x ∧ x ≤ 4) (j : Nat) : (ls.getD j 0).natAbs < 2 ^ 64 := by
  rw [List.getD_eq_getElem?_getD]
  cases e : ls[j]? with
  | none => decide
  | some x =>
    have := h x (List.mem_of_getElem? e)
    show x.natAbs < 2 ^ 64
    omega
theorem sum_is {prog : Program} {w : World} {A : Around} {E : Value → Shared → Prop} {s : Shared} {h₀ : Heap} {L l : Addr} {m : Str → Option Value} {news : List (Addr × Obj)} {vs : List Value} {ns : List Int} {M : Int} {c : Nat} {Q : Value → Shared → Prop} (F : Fr h₀ L s.heap m) (N : News h₀ L s.heap news) (hh : A.handled = none) (hl : (l, listOf (List.toArray vs) c) ∈ news) (hi : IntsAre vs ns) (hM : ns.sum = M)
    (h : ∀ h' tk t', Fr h₀ L h' m → News h₀ L h' news → Q (.int M t') { s with heap := h', toks := tk }) : wpAny (model prog w) A (call (.builtin "sum") [.ref l]) Q E s := by
  subst hM
  exact sumK hh F N ⟨_, (N _ hl).1, rfl, _, rfl⟩ hi h
theorem ne_ints_no {prog : Program} {w : World} {A : Around} {E : Value → Shared → Prop} {s : Shared} {a : Int} {t u : Tok} {Q : Value → Shared → Prop} (h : wpAny (model prog w) A (compareOp .NotEq (.int a t) (.int a u)) Q E s) : wpAny (model prog w) A (compareOp .NotEq (.int a t) (.int a u)) Q E s := h
/-- the weights' line and the turn's plain facts -/
structure CostOk (ws ls : List Int) (M : Int) (f z : Nat) (b : Bool) : Prop where
  l5 : ls.length = 5
  sml : ∀ x ∈ ls, 1 ≤ x ∧ x ≤ 4
  cost : ((List.range 5).map fun i : Nat => ws.getD ((0 : Int) + (i : Int)).toNat 0 * ls.getD ((0 : Int) + (i : Int)).toNat 0).sum = M
  kind : ls.Perm (kd (if b then f else z))

end
section
theorem words_lawTR : True := by
  k_with_none
  (k_with "CJ" => (with_reducible first | assumption | exact cj0 ‹_› | exact cj1 ‹_› | exact cl1 ‹_› | exact cj2 ‹_› | exact cl2 ‹_› | exact cj3 ‹_› | exact cl3 ‹_› | exact cj4 ‹_› | exact cl4 ‹_› | exact cj5 ‹_› | exact cl5 ‹_› | exact cj6 ‹_› | exact cl6 ‹_› | exact cj7 ‹_› | exact cl7 ‹_› | exact cj8 ‹_› | exact cl8 ‹_› | exact cj9 ‹_› | exact cl9 ‹_› | exact cj10 ‹_› | exact cl10 ‹_› | exact cj11 ‹_› | exact cl11 ‹_› | exact cj12 ‹_› | exact cl12 ‹_›))
  (k_with "k_ne" => (((refine neN ?_); (try dsimp only); first | exact Nat.ne_of_gt (by k_extra "CJ") | exact Nat.ne_of_lt (by k_extra "CJ") | k_extra "CJ" | exact Ne.symm (by k_extra "CJ"))))
  (k_with "ktr_room" => (first | exact rm0 ‹_› | exact rm1 ‹_› rfl | exact rm2 ‹_› rfl | exact rm3 ‹_› rfl))
  (k_with "ktr_units" => (first | exact rm0 ‹_› | exact rm1 ‹_› rfl | exact rm2 ‹_› rfl | exact rm3 ‹_› rfl))
  (k_with "k_mem" => (first | exact List.Mem.head _ | (refine' List.Mem.tail _ ?_; k_mem) | (show (_ : Addr × Obj) ∈ (_ : List (Addr × Obj)); with_reducible assumption)))
  (k_with "callWith ref" => ((k_here; k_dflt (first | (refine' callWith_K ?zzk1 ?zzk2 ?_; (case zzk1 => k_asm); (case zzk2 => k_is); k_whole) | (refine' callWith_KW ?zzk1 ?zzk2 ?zzk3 ?_; (case zzk1 => k_asm); (case zzk2 => k_is); (case zzk3 => exact rfl); k_whole)))))
  (k_with "call builtin:len" => ((k_here; (with_reducible show wpAny _ _ (call (Value.builtin "len") [Value.ref _]) _ _ _); k_dflt (refine' my_len ?zzk1 ?zzk2 ?zzk3 ?_; (case zzk1 => k_asm); (case zzk2 => k_mem); (case zzk3 => first | assumption | omega); k_whole))))
  (k_with "callWith ref" => ((k_here; k_dflt (refine' callWith_Fn1 ?zzkf ?_; (case zzkf => with_reducible assumption); k_whole))))
  (k_with "And" => (((with_reducible show IsFn _ _ ∧ _); refine ⟨KeyFn.get (by with_reducible assumption) (by k_in) (by k_asm), ?_⟩; try dsimp only [List.nil_append, List.cons_append])))
  (k_with "CompEnd" => ((k_dflt (refine' compEnd_same ?zzF ?zzN ?zzoff ?zzsrc ?_; (case zzF => k_asm); (case zzN => k_asm); (case zzoff => first | assumption | ((simp only [LCg.Off3, and_true]); first | done | assumption)); (case zzsrc => lcg_src)))))
  (k_with "k_all" => (first | (with_reducible assumption) | exact List.forall_mem_nil _ | (refine' List.forall_mem_cons.mpr ⟨?zzka, ?zzkb⟩; (case zzka => k_ne); (case zzkb => k_all))))
  (k_with "CompSrc" => ((k_here; k_dflt (refine KeepSrc.out ?_))))
  (k_with "binaryOp Pow int int" => ((k_here; (with_reducible refine pow_int_small ?zzkb1 ?zzkb2 ?zzkb3 ?_); (case zzkb1 => omega); (case zzkb2 => omega); (case zzkb3 => decide))))
  (k_with "binaryOp FloorDiv int int" => ((k_here; (with_reducible refine floordiv_int ?zzkb1 ?_ (Or.inl (PyProof.noPylong_small ?zzkb2))); (case zzkb1 => exact pow4_ne _); (case zzkb2 => exact pow4_small (by assumption)))))
  (k_with "eval ListComp" => ((k_here; k_dflt (first
  | ((with_reducible show wpAny _ _ (eval (PySem.Expr.ListComp (PySem.Expr.BinOp _ _ (PySem.Expr.Constant _ _ _) _) _ _ _) _) _ _ _); (rename Fr _ _ _ _ => lFt); (refine ListComp_tok (h₀ := ghostIs lFt) (L := frameIs lFt) (m := localsIs lFt) (by with_unfolding_all rfl) (by decide) (by rfl) (by decide) (by rfl) ?_); (try dsimp only [ghostIs, frameIs, localsIs]))
  | ((with_reducible show wpAny _ _ (eval (PySem.Expr.ListComp _ [⟨PySem.Expr.Name _ _, _, _, _⟩] _ _) _) _ _ _); refine LCg.ListComp_U (F₀ := by k_asm) (by with_unfolding_all rfl) (by decide) (by rfl) (by decide) (by rfl) ?_)))))
  (k_with "execs cons" => (((with_reducible refine execs_grow ?_); try dsimp only)))
  (k_with "Grown" => ((refine Grown.intro fun hg9 => ?_; (try dsimp only at hg9))))
  exact True.intro
theorem words_lawTR_1 : True := by
  (k_with "SUBL" => ((intros p9 h9; (repeat (first | exact h9 | refine List.Mem.tail _ ?_)))))
  exact True.intro
theorem law_tR {prog : Program} {w : World} {loose : List Str} {mean : ExcName → Option Value} {mg mb : Str → Option Value} {g : Heap} {L : Nat} {f₀ : Addr} {cd : Value} {scope : Scope} {rest : List Stmt} {t0 t1 t2 : Stmt} {s : Shared} {l : Addr} {z : Str → Option Value} {Q : Flow → Shared → Prop} {E : Value → Shared → Prop}
    {Z : List (Addr × Obj)} {I MS NB fa za W : Addr} {oI o2 o5 : Obj} {v5 : Option Value} {cw cf cz : Nat} {ps ps2 : Array Value} {fv zv : List Value} {f zz : Nat} {M w0 w1 w2 w3 w4 : Int} {Mt : Tok} {wt0 wt1 wt2 wt3 wt4 : Nat}
    (hS : fnScope w.params 213 = some scope) (hBd : lawTurn w.params = t0 :: t1 :: t2 :: rest)
    (B : Below callerA g [] g) (X : (hd.heap_39 w.params).In g) (T : Top topProg loose mean mg mb g) (F : Fr g L s.heap (fun y => if y = "behind" then some (.bool true) else if turnS.contains y then z y else if y = "numbers" then some (.ref NB) else if y = "message" then some (.ref MS) else if y = "steepest" then some (.ref za) else if y = "flattest" then some (.ref fa) else if y = "least" then some (.int M Mt) else if y = "script" then some (.ref l) else none))
    (N : News g L s.heap ((I, oI) :: ((L + 1 + 1 + 1 + 1 + 1 : Nat), o5) :: (177, tabObj ps2) :: (172, tabObj ps) :: Z)) (d5 : o5.data = .cell v5) (aI : ∀ p ∈ Z, @Ne Nat p.1 I) (a5 : ∀ p ∈ Z, @Ne Nat p.1 (L + 1 + 1 + 1 + 1 + 1 : Nat)) (a7 : ∀ p ∈ Z, @Ne Nat p.1 177) (a2 : ∀ p ∈ Z, @Ne Nat p.1 172) (l0 : (177 : Nat) < L ∧ (172 : Nat) < L) (lI : (L + 1 + 1 + 1 + 1 + 1 : Nat) < I)
    (hW : (W, listOf (List.toArray [.int w0 wt0, .int w1 wt1, .int w2 wt2, .int w3 wt3, .int w4 wt4]) cw) ∈ Z) (hc2 : ((L + 1 + 1 : Nat), o2) ∈ Z) (d2 : o2.data = .cell (some (.ref W))) (hf : (fa, listOf (List.toArray fv) cf) ∈ Z) (hz : (za, listOf (List.toArray zv) cz) ∈ Z) (hif : IntsAre fv (kd f)) (hiz : IntsAre zv (kd zz))
    (hK : Sealed (CostOk [w0, w1, w2, w3, w4] (lens true [w0, w1, w2, w3, w4]) M f zz true))
    (hPE : PassesOwn (model prog w) (callerA.deeper (envOfC "law" scope L f₀ cd)) (envOfC "law" scope L f₀ cd) E)
    (hret : ∀ (h' : Heap) (tk' : Nat) (o5' : Obj) (LN : Addr) (lv : List Value) (cn : Nat),
      Fr g L h' (fun y => if y = "behind" then some (.bool true) else if turnS.contains y then z y else if y = "numbers" then some (.ref NB) else if y = "message" then some (.ref MS) else if y = "steepest" then some (.ref za) else if y = "flattest" then some (.ref fa) else if y = "least" then some (.int M Mt) else if y = "script" then some (.ref l) else none) → News g L h' ((I, oI) :: ((L + 1 + 1 + 1 + 1 + 1 : Nat), o5') :: (177, tabObj ps2) :: (172, tabObj ps) :: (LN, listOf (List.toArray lv) cn) :: Z) → o5'.data = .cell (some (.ref LN)) → @Ne Nat LN I → @Ne Nat LN (L + 1 + 1 + 1 + 1 + 1 : Nat) → @Ne Nat LN 177 → @Ne Nat LN 172 → IntsAre lv (lens true [w0, w1, w2, w3, w4]) → (∃ k, TokOk k lv) → s.toks ≤ tk' →
      wpAny (model prog w) (callerA.deeper (envOfC "law" scope L f₀ cd)) (execs rest (envOfC "law" scope L f₀ cd)) Q E { s with heap := h', toks := tk' }) :
    wpAny (model prog w) (callerA.deeper (envOfC "law" scope L f₀ cd)) (execs (t0 :: t1 :: t2 :: rest) (envOfC "law" scope L f₀ cd)) Q E s := by
  injection (show some _ = some scope from hS) with e0
  subst e0
  injection (show _ :: _ = t0 :: t1 :: t2 :: rest from hBd) with e0 e1
  injection e1 with e1 e2
  injection e2 with e2 e3
  subst e0 e1 e2
  clear hS hBd e3
  have h59 : (lens true [w0, w1, w2, w3, w4]).length = 5 := hK.eq.l5
  have hw9 : IntsAre [.int w0 wt0, .int w1 wt1, .int w2 wt2, .int w3 wt3, .int w4 wt4] [w0, w1, w2, w3, w4] := .cons _ _ (.cons _ _ (.cons _ _ (.cons _ _ (.cons _ _ .nil))))
  k_with_none
  (k_with "CJ" => (with_reducible first | assumption | exact cj0 ‹_› | exact cj1 ‹_› | exact cl1 ‹_› | exact cj2 ‹_› | exact cl2 ‹_› | exact cj3 ‹_› | exact cl3 ‹_› | exact cj4 ‹_› | exact cl4 ‹_› | exact cj5 ‹_› | exact cl5 ‹_› | exact cj6 ‹_› | exact cl6 ‹_› | exact cj7 ‹_› | exact cl7 ‹_› | exact cj8 ‹_› | exact cl8 ‹_› | exact cj9 ‹_› | exact cl9 ‹_› | exact cj10 ‹_› | exact cl10 ‹_› | exact cj11 ‹_› | exact cl11 ‹_› | exact cj12 ‹_› | exact cl12 ‹_›))
  (k_with "k_ne" => (((refine neN ?_); (try dsimp only); first | exact Nat.ne_of_gt (by k_extra "CJ") | exact Nat.ne_of_lt (by k_extra "CJ") | k_extra "CJ" | exact Ne.symm (by k_extra "CJ"))))
  (k_with "ktr_room" => (first | exact rm0 ‹_› | exact rm1 ‹_› rfl | exact rm2 ‹_› rfl | exact rm3 ‹_› rfl))
  (k_with "ktr_units" => (first | exact rm0 ‹_› | exact rm1 ‹_› rfl | exact rm2 ‹_› rfl | exact rm3 ‹_› rfl))
  (k_with "k_mem" => (first | exact List.Mem.head _ | (refine' List.Mem.tail _ ?_; k_mem) | (show (_ : Addr × Obj) ∈ (_ : List (Addr × Obj)); with_reducible assumption)))
  (k_with "callWith ref" => ((k_here; k_dflt (first | (refine' callWith_K ?zzk1 ?zzk2 ?_; (case zzk1 => k_asm); (case zzk2 => k_is); k_whole) | (refine' callWith_KW ?zzk1 ?zzk2 ?zzk3 ?_; (case zzk1 => k_asm); (case zzk2 => k_is); (case zzk3 => exact rfl); k_whole)))))
  (k_with "call builtin:len" => ((k_here; (with_reducible show wpAny _ _ (call (Value.builtin "len") [Value.ref _]) _ _ _); k_dflt (refine' my_len ?zzk1 ?zzk2 ?zzk3 ?_; (case zzk1 => k_asm); (case zzk2 => k_mem); (case zzk3 => first | assumption | omega); k_whole))))
  (k_with "callWith ref" => ((k_here; k_dflt (refine' callWith_Fn1 ?zzkf ?_; (case zzkf => with_reducible assumption); k_whole))))
  (k_with "And" => (((with_reducible show IsFn _ _ ∧ _); refine ⟨KeyFn.get (by with_reducible assumption) (by k_in) (by k_asm), ?_⟩; try dsimp only [List.nil_append, List.cons_append])))
  (k_with "CompEnd" => ((k_dflt (refine' compEnd_same ?zzF ?zzN ?zzoff ?zzsrc ?_; (case zzF => k_asm); (case zzN => k_asm); (case zzoff => first | assumption | ((simp only [LCg.Off3, and_true]); first | done | assumption)); (case zzsrc => lcg_src)))))
  (k_with "k_all" => (first | (with_reducible assumption) | exact List.forall_mem_nil _ | (refine' List.forall_mem_cons.mpr ⟨?zzka, ?zzkb⟩; (case zzka => k_ne); (case zzkb => k_all))))
  (k_with "CompSrc" => ((k_here; k_dflt (refine KeepSrc.out ?_))))
  (k_with "binaryOp Pow int int" => ((k_here; (with_reducible refine pow_int_small ?zzkb1 ?zzkb2 ?zzkb3 ?_); (case zzkb1 => omega); (case zzkb2 => omega); (case zzkb3 => decide))))
  (k_with "binaryOp FloorDiv int int" => ((k_here; (with_reducible refine floordiv_int ?zzkb1 ?_ (Or.inl (PyProof.noPylong_small ?zzkb2))); (case zzkb1 => exact pow4_ne _); (case zzkb2 => exact pow4_small (by assumption)))))
  (k_with "eval ListComp" => ((k_here; k_dflt (first
  | ((with_reducible show wpAny _ _ (eval (PySem.Expr.ListComp (PySem.Expr.BinOp _ _ (PySem.Expr.Constant _ _ _) _) _ _ _) _) _ _ _); (rename Fr _ _ _ _ => lFt); (refine ListComp_tok (h₀ := ghostIs lFt) (L := frameIs lFt) (m := localsIs lFt) (by with_unfolding_all rfl) (by decide) (by rfl) (by decide) (by rfl) ?_); (try dsimp only [ghostIs, frameIs, localsIs]))
  | ((with_reducible show wpAny _ _ (eval (PySem.Expr.ListComp _ [⟨PySem.Expr.Name _ _, _, _, _⟩] _ _) _) _ _ _); refine LCg.ListComp_U (F₀ := by k_asm) (by with_unfolding_all rfl) (by decide) (by rfl) (by decide) (by rfl) ?_)))))
  (k_with "execs cons" => (((with_reducible refine execs_grow ?_); try dsimp only)))
  (k_with "Grown" => ((refine Grown.intro fun hg9 => ?_; (try dsimp only at hg9))))
  (k_with "SUBL" => ((intros p9 h9; (repeat (first | exact h9 | refine List.Mem.tail _ ?_)))))
  (k_with "call ref" => ((with_reducible show wpAny _ _ (call (Value.ref 170) _) _ _ _); k_dflt (refine' c_lensR ?k1 ?k2 ?k3 ?k4 ?k5 ?kK ?kd ?ku ?kl ?_; (case k1 => k_asm); (case k2 => k_asm); (case k3 => k_asm); (case k4 => k_asm); (case k5 => k_asm); (case kK => exact rfl); (case kd => ktr_room); (case ku => ktr_units); (case kl => k_mem); k_whole); intro LN lv8 n8 h8 tk8 F8 N8 l8 y8 z8; k_dflt ((have nI8 : @Ne Nat I LN := l8 (I, oI) (by k_mem)); (have n58 : @Ne Nat (L + 1 + 1 + 1 + 1 + 1 : Nat) LN := l8 ((L + 1 + 1 + 1 + 1 + 1 : Nat), o5) (by k_mem)); (have n78 : @Ne Nat 177 LN := l8 (177, tabObj ps2) (by k_mem)); (have n28 : @Ne Nat 172 LN := l8 (172, tabObj ps) (by k_mem))); clear l8; (try dsimp only); (try k_fold)))
  (k_with "KeepSrc" => (k_dflt (refine' KeepSrc.mk (LCg.CompSrc.range (n := 5) ?khA ?kFA ?kNA ?krA ?ksA ?kzA ?kqA ?ktA); (case khA => exact rfl); (case kFA => k_asm); (case kNA => k_asm); (case krA => assumption); (case ksA => decide); (case kzA => rfl); (case kqA => decide)); (case' ktA => (intro g9; refine' cr_range (fun i => ([w0, w1, w2, w3, w4] : List Int).getD (0 + (i : Int)).toNat 0 * (lens true [w0, w1, w2, w3, w4]).getD (0 + (i : Int)).toNat 0) 5 ?turnA ?finA)); (case' turnA => (intro i9 t9 I9 oI9 C9 oC9 D9 m9 ys9 h9 tk9 E9 hi9 hC9 hv9 lF9 lN9 off9 ne9; (try simp only [LCg.Off3, and_true] at off9))); (case' finA => (intro ys9 y9))))
  (k_with "subscriptTail Name Name ref int" => (first
    | ((with_reducible show wpAny _ _ (subscriptTail (PySem.Expr.Name (PySem.Str.ofString "weights") _) _ _ _) _ _ _); k_dflt (refine' my_itemI ?N ?kl hw9 ?k1 ?k2 ?k3 ?_; (case N => k_asm); (case kl => k_mem); (case k1 => omega); (case k2 => (show (0 : Int) + (i9 : Int) < 5; omega)); (case k3 => (show 5 < 1000; decide))); intro t8)
    | ((with_reducible show wpAny _ _ (subscriptTail (PySem.Expr.Name (PySem.Str.ofString "lengths") _) _ _ _) _ _ _); k_dflt (refine' my_itemI ?N ?kl y8 ?k1 ?k2 ?k3 ?_; (case N => k_asm); (case kl => k_mem); (case k1 => omega); (case k2 => (rw [h59]; omega)); (case k3 => (rw [h59]; decide))); intro t8)))
  (k_with "binaryOp Mult int int" => (k_dflt (refine' mul_R ?kb ?_; (case kb => exact getD_small hK.eq.sml _))))
  (k_with "call builtin:sum" => (k_dflt (refine' sum_is (M := M) ?F ?N ?kh ?kl y9 ?ke ?_; (case F => k_asm); (case N => k_asm); (case kh => exact rfl); (case kl => k_mem); (case ke => exact hK.eq.cost); k_whole); intro h6 tk6 t6 F6 N6; (try dsimp only); (try k_fold)))
  (k_with "call builtin:sorted" => (k_dflt (refine' my_sortedK (k := f) ?F ?N ?kl y8 h59 ?kp ?_; (case F => k_asm); (case N => k_asm); (case kl => k_mem); (case kp => exact hK.eq.kind); k_whole); intro D5 v5 c5 h5 F5 N5 l5 y5; (try k_lt l5); (try dsimp only); (try k_fold)))
  (k_with "compareOp NotEq ref ref" => (k_dflt (refine' ne_two ?N ?ka ?kb y5 ?kj ?ku ?_; (case N => k_asm); (case ka => k_mem); (case kb => k_mem); (case kj => with_reducible assumption); (case ku => ktr_units))))
  k_steps
  · exact absurd rfl (by assumption)
  · (rename News _ _ _ _ => N9); (rename Fr _ _ _ _ => F9)
    refine hret _ _ _ LN lv8 n8 F9 (news_sub N9 (List.forall_mem_cons.mpr ⟨by k_mem, List.forall_mem_cons.mpr ⟨by k_mem, List.forall_mem_cons.mpr ⟨by k_mem, List.forall_mem_cons.mpr ⟨by k_mem, List.forall_mem_cons.mpr ⟨by k_mem, by walk_at "SUBL"⟩⟩⟩⟩⟩)) ?d5 nI8.symm n58.symm n78.symm n28.symm y8 z8 (Nat.le_trans (show s.toks ≤ tk8 by assumption) (Nat.le_trans (show tk8 ≤ tk6 by assumption) (by assumption)))
    case d5 => assumption
  · exact ⟨⟨_, rfl⟩, rfl⟩

end
section
theorem words_lawTL : True := by
  k_with_none
  (k_with "CJ" => (with_reducible first | assumption | exact cj0 ‹_› | exact cj1 ‹_› | exact cl1 ‹_› | exact cj2 ‹_› | exact cl2 ‹_› | exact cj3 ‹_› | exact cl3 ‹_› | exact cj4 ‹_› | exact cl4 ‹_› | exact cj5 ‹_› | exact cl5 ‹_› | exact cj6 ‹_› | exact cl6 ‹_› | exact cj7 ‹_› | exact cl7 ‹_› | exact cj8 ‹_› | exact cl8 ‹_› | exact cj9 ‹_› | exact cl9 ‹_› | exact cj10 ‹_› | exact cl10 ‹_› | exact cj11 ‹_› | exact cl11 ‹_› | exact cj12 ‹_› | exact cl12 ‹_›))
  (k_with "k_ne" => (((refine neN ?_); (try dsimp only); first | exact Nat.ne_of_gt (by k_extra "CJ") | exact Nat.ne_of_lt (by k_extra "CJ") | k_extra "CJ" | exact Ne.symm (by k_extra "CJ"))))
  (k_with "ktr_room" => (first | exact rm0 ‹_› | exact rm1 ‹_› rfl | exact rm2 ‹_› rfl | exact rm3 ‹_› rfl))
  (k_with "ktr_units" => (first | exact rm0 ‹_› | exact rm1 ‹_› rfl | exact rm2 ‹_› rfl | exact rm3 ‹_› rfl))
  (k_with "k_mem" => (first | exact List.Mem.head _ | (refine' List.Mem.tail _ ?_; k_mem) | (show (_ : Addr × Obj) ∈ (_ : List (Addr × Obj)); with_reducible assumption)))
  (k_with "callWith ref" => ((k_here; k_dflt (first | (refine' callWith_K ?zzk1 ?zzk2 ?_; (case zzk1 => k_asm); (case zzk2 => k_is); k_whole) | (refine' callWith_KW ?zzk1 ?zzk2 ?zzk3 ?_; (case zzk1 => k_asm); (case zzk2 => k_is); (case zzk3 => exact rfl); k_whole)))))
  (k_with "call builtin:len" => ((k_here; (with_reducible show wpAny _ _ (call (Value.builtin "len") [Value.ref _]) _ _ _); k_dflt (refine' my_len ?zzk1 ?zzk2 ?zzk3 ?_; (case zzk1 => k_asm); (case zzk2 => k_mem); (case zzk3 => first | assumption | omega); k_whole))))
  (k_with "callWith ref" => ((k_here; k_dflt (refine' callWith_Fn1 ?zzkf ?_; (case zzkf => with_reducible assumption); k_whole))))
  (k_with "And" => (((with_reducible show IsFn _ _ ∧ _); refine ⟨KeyFn.get (by with_reducible assumption) (by k_in) (by k_asm), ?_⟩; try dsimp only [List.nil_append, List.cons_append])))
  (k_with "CompEnd" => ((k_dflt (refine' compEnd_same ?zzF ?zzN ?zzoff ?zzsrc ?_; (case zzF => k_asm); (case zzN => k_asm); (case zzoff => first | assumption | ((simp only [LCg.Off3, and_true]); first | done | assumption)); (case zzsrc => lcg_src)))))
  (k_with "k_all" => (first | (with_reducible assumption) | exact List.forall_mem_nil _ | (refine' List.forall_mem_cons.mpr ⟨?zzka, ?zzkb⟩; (case zzka => k_ne); (case zzkb => k_all))))
  (k_with "CompSrc" => ((k_here; k_dflt (refine KeepSrc.out ?_))))
  (k_with "binaryOp Pow int int" => ((k_here; (with_reducible refine pow_int_small ?zzkb1 ?zzkb2 ?zzkb3 ?_); (case zzkb1 => omega); (case zzkb2 => omega); (case zzkb3 => decide))))
  (k_with "binaryOp FloorDiv int int" => ((k_here; (with_reducible refine floordiv_int ?zzkb1 ?_ (Or.inl (PyProof.noPylong_small ?zzkb2))); (case zzkb1 => exact pow4_ne _); (case zzkb2 => exact pow4_small (by assumption)))))
  (k_with "eval ListComp" => ((k_here; k_dflt (first
  | ((with_reducible show wpAny _ _ (eval (PySem.Expr.ListComp (PySem.Expr.BinOp _ _ (PySem.Expr.Constant _ _ _) _) _ _ _) _) _ _ _); (rename Fr _ _ _ _ => lFt); (refine ListComp_tok (h₀ := ghostIs lFt) (L := frameIs lFt) (m := localsIs lFt) (by with_unfolding_all rfl) (by decide) (by rfl) (by decide) (by rfl) ?_); (try dsimp only [ghostIs, frameIs, localsIs]))
  | ((with_reducible show wpAny _ _ (eval (PySem.Expr.ListComp _ [⟨PySem.Expr.Name _ _, _, _, _⟩] _ _) _) _ _ _); refine LCg.ListComp_U (F₀ := by k_asm) (by with_unfolding_all rfl) (by decide) (by rfl) (by decide) (by rfl) ?_)))))
  (k_with "execs cons" => (((with_reducible refine execs_grow ?_); try dsimp only)))
  (k_with "Grown" => ((refine Grown.intro fun hg9 => ?_; (try dsimp only at hg9))))
  exact True.intro
theorem words_lawTL_1 : True := by
  (k_with "SUBL" => ((intros p9 h9; (repeat (first | exact h9 | refine List.Mem.tail _ ?_)))))
  exact True.intro
theorem law_tL {prog : Program} {w : World} {loose : List Str} {mean : ExcName → Option Value} {mg mb : Str → Option Value} {g : Heap} {L : Nat} {f₀ : Addr} {cd : Value} {scope : Scope} {rest : List Stmt} {t0 t1 t2 : Stmt} {s : Shared} {l : Addr} {z : Str → Option Value} {Q : Flow → Shared → Prop} {E : Value → Shared → Prop}
    {Z : List (Addr × Obj)} {I MS NB fa za W : Addr} {oI o2 o5 : Obj} {v5 : Option Value} {cw cf cz : Nat} {ps ps2 : Array Value} {fv zv : List Value} {f zz : Nat} {M w0 w1 w2 w3 w4 : Int} {Mt : Tok} {wt0 wt1 wt2 wt3 wt4 : Nat}
    (hS : fnScope w.params 213 = some scope) (hBd : lawTurn w.params = t0 :: t1 :: t2 :: rest)
    (B : Below callerA g [] g) (X : (hd.heap_39 w.params).In g) (T : Top topProg loose mean mg mb g) (F : Fr g L s.heap (fun y => if y = "behind" then some (.bool false) else if turnS.contains y then z y else if y = "numbers" then some (.ref NB) else if y = "message" then some (.ref MS) else if y = "steepest" then some (.ref za) else if y = "flattest" then some (.ref fa) else if y = "least" then some (.int M Mt) else if y = "script" then some (.ref l) else none))
    (N : News g L s.heap ((I, oI) :: ((L + 1 + 1 + 1 + 1 + 1 : Nat), o5) :: (177, tabObj ps2) :: (172, tabObj ps) :: Z)) (d5 : o5.data = .cell v5) (aI : ∀ p ∈ Z, @Ne Nat p.1 I) (a5 : ∀ p ∈ Z, @Ne Nat p.1 (L + 1 + 1 + 1 + 1 + 1 : Nat)) (a7 : ∀ p ∈ Z, @Ne Nat p.1 177) (a2 : ∀ p ∈ Z, @Ne Nat p.1 172) (l0 : (177 : Nat) < L ∧ (172 : Nat) < L) (lI : (L + 1 + 1 + 1 + 1 + 1 : Nat) < I)
    (hW : (W, listOf (List.toArray [.int w0 wt0, .int w1 wt1, .int w2 wt2, .int w3 wt3, .int w4 wt4]) cw) ∈ Z) (hc2 : ((L + 1 + 1 : Nat), o2) ∈ Z) (d2 : o2.data = .cell (some (.ref W))) (hf : (fa, listOf (List.toArray fv) cf) ∈ Z) (hz : (za, listOf (List.toArray zv) cz) ∈ Z) (hif : IntsAre fv (kd f)) (hiz : IntsAre zv (kd zz))
    (hK : Sealed (CostOk [w0, w1, w2, w3, w4] (lens false [w0, w1, w2, w3, w4]) M f zz false))
    (hPE : PassesOwn (model prog w) (callerA.deeper (envOfC "law" scope L f₀ cd)) (envOfC "law" scope L f₀ cd) E)
    (hret : ∀ (h' : Heap) (tk' : Nat) (o5' : Obj) (LN : Addr) (lv : List Value) (cn : Nat),
      Fr g L h' (fun y => if y = "behind" then some (.bool false) else if turnS.contains y then z y else if y = "numbers" then some (.ref NB) else if y = "message" then some (.ref MS) else if y = "steepest" then some (.ref za) else if y = "flattest" then some (.ref fa) else if y = "least" then some (.int M Mt) else if y = "script" then some (.ref l) else none) → News g L h' ((I, oI) :: ((L + 1 + 1 + 1 + 1 + 1 : Nat), o5') :: (177, tabObj ps2) :: (172, tabObj ps) :: (LN, listOf (List.toArray lv) cn) :: Z) → o5'.data = .cell (some (.ref LN)) → @Ne Nat LN I → @Ne Nat LN (L + 1 + 1 + 1 + 1 + 1 : Nat) → @Ne Nat LN 177 → @Ne Nat LN 172 → IntsAre lv (lens false [w0, w1, w2, w3, w4]) → (∃ k, TokOk k lv) → s.toks ≤ tk' →
      wpAny (model prog w) (callerA.deeper (envOfC "law" scope L f₀ cd)) (execs rest (envOfC "law" scope L f₀ cd)) Q E { s with heap := h', toks := tk' }) :
    wpAny (model prog w) (callerA.deeper (envOfC "law" scope L f₀ cd)) (execs (t0 :: t1 :: t2 :: rest) (envOfC "law" scope L f₀ cd)) Q E s := by
  injection (show some _ = some scope from hS) with e0
  subst e0
  injection (show _ :: _ = t0 :: t1 :: t2 :: rest from hBd) with e0 e1
  injection e1 with e1 e2
  injection e2 with e2 e3
  subst e0 e1 e2
  clear hS hBd e3
  have h59 : (lens false [w0, w1, w2, w3, w4]).length = 5 := hK.eq.l5
  have hw9 : IntsAre [.int w0 wt0, .int w1 wt1, .int w2 wt2, .int w3 wt3, .int w4 wt4] [w0, w1, w2, w3, w4] := .cons _ _ (.cons _ _ (.cons _ _ (.cons _ _ (.cons _ _ .nil))))
  k_with_none
  (k_with "CJ" => (with_reducible first | assumption | exact cj0 ‹_› | exact cj1 ‹_› | exact cl1 ‹_› | exact cj2 ‹_› | exact cl2 ‹_› | exact cj3 ‹_› | exact cl3 ‹_› | exact cj4 ‹_› | exact cl4 ‹_› | exact cj5 ‹_› | exact cl5 ‹_› | exact cj6 ‹_› | exact cl6 ‹_› | exact cj7 ‹_› | exact cl7 ‹_› | exact cj8 ‹_› | exact cl8 ‹_› | exact cj9 ‹_› | exact cl9 ‹_› | exact cj10 ‹_› | exact cl10 ‹_› | exact cj11 ‹_› | exact cl11 ‹_› | exact cj12 ‹_› | exact cl12 ‹_›))
  (k_with "k_ne" => (((refine neN ?_); (try dsimp only); first | exact Nat.ne_of_gt (by k_extra "CJ") | exact Nat.ne_of_lt (by k_extra "CJ") | k_extra "CJ" | exact Ne.symm (by k_extra "CJ"))))
  (k_with "ktr_room" => (first | exact rm0 ‹_› | exact rm1 ‹_› rfl | exact rm2 ‹_› rfl | exact rm3 ‹_› rfl))
  (k_with "ktr_units" => (first | exact rm0 ‹_› | exact rm1 ‹_› rfl | exact rm2 ‹_› rfl | exact rm3 ‹_› rfl))
  (k_with "k_mem" => (first | exact List.Mem.head _ | (refine' List.Mem.tail _ ?_; k_mem) | (show (_ : Addr × Obj) ∈ (_ : List (Addr × Obj)); with_reducible assumption)))
  (k_with "callWith ref" => ((k_here; k_dflt (first | (refine' callWith_K ?zzk1 ?zzk2 ?_; (case zzk1 => k_asm); (case zzk2 => k_is); k_whole) | (refine' callWith_KW ?zzk1 ?zzk2 ?zzk3 ?_; (case zzk1 => k_asm); (case zzk2 => k_is); (case zzk3 => exact rfl); k_whole)))))
  (k_with "call builtin:len" => ((k_here; (with_reducible show wpAny _ _ (call (Value.builtin "len") [Value.ref _]) _ _ _); k_dflt (refine' my_len ?zzk1 ?zzk2 ?zzk3 ?_; (case zzk1 => k_asm); (case zzk2 => k_mem); (case zzk3 => first | assumption | omega); k_whole))))
  (k_with "callWith ref" => ((k_here; k_dflt (refine' callWith_Fn1 ?zzkf ?_; (case zzkf => with_reducible assumption); k_whole))))
  (k_with "And" => (((with_reducible show IsFn _ _ ∧ _); refine ⟨KeyFn.get (by with_reducible assumption) (by k_in) (by k_asm), ?_⟩; try dsimp only [List.nil_append, List.cons_append])))
  (k_with "CompEnd" => ((k_dflt (refine' compEnd_same ?zzF ?zzN ?zzoff ?zzsrc ?_; (case zzF => k_asm); (case zzN => k_asm); (case zzoff => first | assumption | ((simp only [LCg.Off3, and_true]); first | done | assumption)); (case zzsrc => lcg_src)))))
  (k_with "k_all" => (first | (with_reducible assumption) | exact List.forall_mem_nil _ | (refine' List.forall_mem_cons.mpr ⟨?zzka, ?zzkb⟩; (case zzka => k_ne); (case zzkb => k_all))))
  (k_with "CompSrc" => ((k_here; k_dflt (refine KeepSrc.out ?_))))
  (k_with "binaryOp Pow int int" => ((k_here; (with_reducible refine pow_int_small ?zzkb1 ?zzkb2 ?zzkb3 ?_); (case zzkb1 => omega); (case zzkb2 => omega); (case zzkb3 => decide))))
  (k_with "binaryOp FloorDiv int int" => ((k_here; (with_reducible refine floordiv_int ?zzkb1 ?_ (Or.inl (PyProof.noPylong_small ?zzkb2))); (case zzkb1 => exact pow4_ne _); (case zzkb2 => exact pow4_small (by assumption)))))
  (k_with "eval ListComp" => ((k_here; k_dflt (first
  | ((with_reducible show wpAny _ _ (eval (PySem.Expr.ListComp (PySem.Expr.BinOp _ _ (PySem.Expr.Constant _ _ _) _) _ _ _) _) _ _ _); (rename Fr _ _ _ _ => lFt); (refine ListComp_tok (h₀ := ghostIs lFt) (L := frameIs lFt) (m := localsIs lFt) (by with_unfolding_all rfl) (by decide) (by rfl) (by decide) (by rfl) ?_); (try dsimp only [ghostIs, frameIs, localsIs]))
  | ((with_reducible show wpAny _ _ (eval (PySem.Expr.ListComp _ [⟨PySem.Expr.Name _ _, _, _, _⟩] _ _) _) _ _ _); refine LCg.ListComp_U (F₀ := by k_asm) (by with_unfolding_all rfl) (by decide) (by rfl) (by decide) (by rfl) ?_)))))
  (k_with "execs cons" => (((with_reducible refine execs_grow ?_); try dsimp only)))
  (k_with "Grown" => ((refine Grown.intro fun hg9 => ?_; (try dsimp only at hg9))))
  (k_with "SUBL" => ((intros p9 h9; (repeat (first | exact h9 | refine List.Mem.tail _ ?_)))))
  (k_with "call ref" => ((with_reducible show wpAny _ _ (call (Value.ref 170) _) _ _ _); k_dflt (refine' c_lensL ?k1 ?k2 ?k3 ?k4 ?k5 ?kK ?kd ?ku ?kl ?_; (case k1 => k_asm); (case k2 => k_asm); (case k3 => k_asm); (case k4 => k_asm); (case k5 => k_asm); (case kK => exact rfl); (case kd => ktr_room); (case ku => ktr_units); (case kl => k_mem); k_whole); intro LN lv8 n8 h8 tk8 F8 N8 l8 y8 z8; k_dflt ((have nI8 : @Ne Nat I LN := l8 (I, oI) (by k_mem)); (have n58 : @Ne Nat (L + 1 + 1 + 1 + 1 + 1 : Nat) LN := l8 ((L + 1 + 1 + 1 + 1 + 1 : Nat), o5) (by k_mem)); (have n78 : @Ne Nat 177 LN := l8 (177, tabObj ps2) (by k_mem)); (have n28 : @Ne Nat 172 LN := l8 (172, tabObj ps) (by k_mem))); clear l8; (try dsimp only); (try k_fold)))
  (k_with "KeepSrc" => (k_dflt (refine' KeepSrc.mk (LCg.CompSrc.range (n := 5) ?khA ?kFA ?kNA ?krA ?ksA ?kzA ?kqA ?ktA); (case khA => exact rfl); (case kFA => k_asm); (case kNA => k_asm); (case krA => assumption); (case ksA => decide); (case kzA => rfl); (case kqA => decide)); (case' ktA => (intro g9; refine' cr_range (fun i => ([w0, w1, w2, w3, w4] : List Int).getD (0 + (i : Int)).toNat 0 * (lens false [w0, w1, w2, w3, w4]).getD (0 + (i : Int)).toNat 0) 5 ?turnA ?finA)); (case' turnA => (intro i9 t9 I9 oI9 C9 oC9 D9 m9 ys9 h9 tk9 E9 hi9 hC9 hv9 lF9 lN9 off9 ne9; (try simp only [LCg.Off3, and_true] at off9))); (case' finA => (intro ys9 y9))))
  (k_with "subscriptTail Name Name ref int" => (first
    | ((with_reducible show wpAny _ _ (subscriptTail (PySem.Expr.Name (PySem.Str.ofString "weights") _) _ _ _) _ _ _); k_dflt (refine' my_itemI ?N ?kl hw9 ?k1 ?k2 ?k3 ?_; (case N => k_asm); (case kl => k_mem); (case k1 => omega); (case k2 => (show (0 : Int) + (i9 : Int) < 5; omega)); (case k3 => (show 5 < 1000; decide))); intro t8)
    | ((with_reducible show wpAny _ _ (subscriptTail (PySem.Expr.Name (PySem.Str.ofString "lengths") _) _ _ _) _ _ _); k_dflt (refine' my_itemI ?N ?kl y8 ?k1 ?k2 ?k3 ?_; (case N => k_asm); (case kl => k_mem); (case k1 => omega); (case k2 => (rw [h59]; omega)); (case k3 => (rw [h59]; decide))); intro t8)))
  (k_with "binaryOp Mult int int" => (k_dflt (refine' mul_R ?kb ?_; (case kb => exact getD_small hK.eq.sml _))))
  (k_with "call builtin:sum" => (k_dflt (refine' sum_is (M := M) ?F ?N ?kh ?kl y9 ?ke ?_; (case F => k_asm); (case N => k_asm); (case kh => exact rfl); (case kl => k_mem); (case ke => exact hK.eq.cost); k_whole); intro h6 tk6 t6 F6 N6; (try dsimp only); (try k_fold)))
  (k_with "call builtin:sorted" => (k_dflt (refine' my_sortedK (k := zz) ?F ?N ?kl y8 h59 ?kp ?_; (case F => k_asm); (case N => k_asm); (case kl => k_mem); (case kp => exact hK.eq.kind); k_whole); intro D5 v5 c5 h5 F5 N5 l5 y5; (try k_lt l5); (try dsimp only); (try k_fold)))
  (k_with "compareOp NotEq ref ref" => (k_dflt (refine' ne_two ?N ?ka ?kb y5 ?kj ?ku ?_; (case N => k_asm); (case ka => k_mem); (case kb => k_mem); (case kj => with_reducible assumption); (case ku => ktr_units))))
  k_steps
  · exact absurd rfl (by assumption)
  · (rename News _ _ _ _ => N9); (rename Fr _ _ _ _ => F9)
    refine hret _ _ _ LN lv8 n8 F9 (news_sub N9 (List.forall_mem_cons.mpr ⟨by k_mem, List.forall_mem_cons.mpr ⟨by k_mem, List.forall_mem_cons.mpr ⟨by k_mem, List.forall_mem_cons.mpr ⟨by k_mem, List.forall_mem_cons.mpr ⟨by k_mem, by walk_at "SUBL"⟩⟩⟩⟩⟩)) ?d5 nI8.symm n58.symm n78.symm n28.symm y8 z8 (Nat.le_trans (show s.toks ≤ tk8 by assumption) (Nat.le_trans (show tk8 ≤ tk6 by assumption) (by assumption)))
    case d5 => assumption
  · exact ⟨⟨_, rfl⟩, rfl⟩

end
section
theorem words_lawT2 : True := by
  k_with_none
  (k_with "CJ" => (with_reducible first | assumption | exact cj0 ‹_› | exact cj1 ‹_› | exact cl1 ‹_› | exact cj2 ‹_› | exact cl2 ‹_› | exact cj3 ‹_› | exact cl3 ‹_› | exact cj4 ‹_› | exact cl4 ‹_› | exact cj5 ‹_› | exact cl5 ‹_› | exact cj6 ‹_› | exact cl6 ‹_› | exact cj7 ‹_› | exact cl7 ‹_› | exact cj8 ‹_› | exact cl8 ‹_› | exact cj9 ‹_› | exact cl9 ‹_› | exact cj10 ‹_› | exact cl10 ‹_› | exact cj11 ‹_› | exact cl11 ‹_› | exact cj12 ‹_› | exact cl12 ‹_›))
  (k_with "k_ne" => (((refine neN ?_); (try dsimp only); first | exact Nat.ne_of_gt (by k_extra "CJ") | exact Nat.ne_of_lt (by k_extra "CJ") | k_extra "CJ" | exact Ne.symm (by k_extra "CJ"))))
  (k_with "ktr_room" => (first | exact rm0 ‹_› | exact rm1 ‹_› rfl | exact rm2 ‹_› rfl | exact rm3 ‹_› rfl))
  (k_with "ktr_units" => (first | exact rm0 ‹_› | exact rm1 ‹_› rfl | exact rm2 ‹_› rfl | exact rm3 ‹_› rfl))
  (k_with "k_mem" => (first | exact List.Mem.head _ | (refine' List.Mem.tail _ ?_; k_mem) | (show (_ : Addr × Obj) ∈ (_ : List (Addr × Obj)); with_reducible assumption)))
  (k_with "callWith ref" => ((k_here; k_dflt (first | (refine' callWith_K ?zzk1 ?zzk2 ?_; (case zzk1 => k_asm); (case zzk2 => k_is); k_whole) | (refine' callWith_KW ?zzk1 ?zzk2 ?zzk3 ?_; (case zzk1 => k_asm); (case zzk2 => k_is); (case zzk3 => exact rfl); k_whole)))))
  (k_with "call builtin:len" => ((k_here; (with_reducible show wpAny _ _ (call (Value.builtin "len") [Value.ref _]) _ _ _); k_dflt (refine' my_len ?zzk1 ?zzk2 ?zzk3 ?_; (case zzk1 => k_asm); (case zzk2 => k_mem); (case zzk3 => first | assumption | omega); k_whole))))
  (k_with "callWith ref" => ((k_here; k_dflt (refine' callWith_Fn1 ?zzkf ?_; (case zzkf => with_reducible assumption); k_whole))))
  (k_with "And" => (((with_reducible show IsFn _ _ ∧ _); refine ⟨KeyFn.get (by with_reducible assumption) (by k_in) (by k_asm), ?_⟩; try dsimp only [List.nil_append, List.cons_append])))
  (k_with "CompEnd" => ((k_dflt (refine' compEnd_same ?zzF ?zzN ?zzoff ?zzsrc ?_; (case zzF => k_asm); (case zzN => k_asm); (case zzoff => first | assumption | ((simp only [LCg.Off3, and_true]); first | done | assumption)); (case zzsrc => lcg_src)))))
  (k_with "k_all" => (first | (with_reducible assumption) | exact List.forall_mem_nil _ | (refine' List.forall_mem_cons.mpr ⟨?zzka, ?zzkb⟩; (case zzka => k_ne); (case zzkb => k_all))))
  (k_with "CompSrc" => ((k_here; k_dflt (refine KeepSrc.out ?_))))
  (k_with "binaryOp Pow int int" => ((k_here; (with_reducible refine pow_int_small ?zzkb1 ?zzkb2 ?zzkb3 ?_); (case zzkb1 => omega); (case zzkb2 => omega); (case zzkb3 => decide))))
  (k_with "binaryOp FloorDiv int int" => ((k_here; (with_reducible refine floordiv_int ?zzkb1 ?_ (Or.inl (PyProof.noPylong_small ?zzkb2))); (case zzkb1 => exact pow4_ne _); (case zzkb2 => exact pow4_small (by assumption)))))
  (k_with "eval ListComp" => ((k_here; k_dflt (first
  | ((with_reducible show wpAny _ _ (eval (PySem.Expr.ListComp (PySem.Expr.BinOp _ _ (PySem.Expr.Constant _ _ _) _) _ _ _) _) _ _ _); (rename Fr _ _ _ _ => lFt); (refine ListComp_tok (h₀ := ghostIs lFt) (L := frameIs lFt) (m := localsIs lFt) (by with_unfolding_all rfl) (by decide) (by rfl) (by decide) (by rfl) ?_); (try dsimp only [ghostIs, frameIs, localsIs]))
  | ((with_reducible show wpAny _ _ (eval (PySem.Expr.ListComp _ [⟨PySem.Expr.Name _ _, _, _, _⟩] _ _) _) _ _ _); refine LCg.ListComp_U (F₀ := by k_asm) (by with_unfolding_all rfl) (by decide) (by rfl) (by decide) (by rfl) ?_)))))
  (k_with "execs cons" => (((with_reducible refine execs_grow ?_); try dsimp only)))
  (k_with "Grown" => ((refine Grown.intro fun hg9 => ?_; (try dsimp only at hg9))))
  exact True.intro
theorem ints_val {us : List Value} {ns : List Int} (h : IntsAre us ns) {a : Int} {t : Tok} (hm : Value.int a t ∈ us) : a ∈ ns := by
  obtain ⟨i, hi⟩ := List.getElem?_of_mem hm
  obtain ⟨b, u, e, hb⟩ := ints_get h hi
  injection e with e _
  subst e
  exact List.mem_of_getElem? hb
theorem lens_tokx {k : Nat} {lv : List Value} {ls : List Int} (h : TokOk k lv) (hi : IntsAre lv ls) (hs : ∀ x ∈ ls, 1 ≤ x ∧ x ≤ 4) : ∀ a t, Value.int a t ∈ lv → TokX lv a t := fun a t hm => by
  have ha := hs a (ints_val hi hm)
  refine ⟨(h.1 a t hm).2 (by omega), fun b u hb => ?_⟩
  have hb' := hs b (ints_val hi hb)
  exact ⟨(h.1 b u hb).2 (by omega), fun e => h.2 b u a t hb hm e, by omega, by omega⟩
theorem apart_tab {h₀ h : Heap} {L r P : Addr} {vs : Array Value} {ps : Array Value} {n : Nat} {D : List (Addr × Obj)} (N : News h₀ L h ((r, listOf vs n) :: (P, tabObj ps) :: D)) : @Ne Nat r P := fun e => by
  have h1 := (N _ (.head _)).1
  have h2 := (N _ (.tail _ (.head _))).1
  dsimp only at h1 h2
  change r = P at e
  rw [e, h2] at h1
  injection h1 with h1
  injection h1 with h1
  exact nomatch h1
theorem c_order {prog : Program} {w : World} {loose : List Str} {mean : ExcName → Option Value} {mg mb : Str → Option Value}
    {dp un : Nat} {gd : Option (List Code)} {cn : Str} {cs : Scope} {a : Addr} {ccd : Value} {cl : List (Str × Addr)} {outer : List Env} {A₀ : Around} {base h₀ : Heap} {L : Addr} {m : Str → Option Value} {s : Shared} {Q E : Value → Shared → Prop}
    (b : Bool) {l : Addr} {n : Nat} {us : List Value} {ls : List Int} {ps : Array Value} {x1 x2 x3 : Addr × Obj} {Z : List (Addr × Obj)}
    (B : Below A₀ base outer h₀) (F : Fr h₀ L s.heap m) (X : (hd.heap_39 w.params).In h₀) (N : News h₀ L s.heap (x1 :: x2 :: x3 :: (172, tabObj ps) :: Z)) (T : Top topProg loose mean mg mb h₀) (hk : cs.kind = .function)
    (hdp : dp + 10 < recursionLimit) (hun : un + 300 < cLine) (hC : CodeHd h₀ 174 172) (TB : TabIn "_law_order.<locals>.<lambda>" ps Z) (a1 : ∀ p ∈ Z, @Ne Nat p.1 x1.1) (a2 : ∀ p ∈ Z, @Ne Nat p.1 x2.1) (a3 : ∀ p ∈ Z, @Ne Nat p.1 x3.1) (a4 : ∀ p ∈ Z, @Ne Nat p.1 172) (n1 : @Ne Nat x1.1 172) (n2 : @Ne Nat x2.1 172) (n3 : @Ne Nat x3.1 172)
    (hl : (l, listOf us.toArray n) ∈ Z) (hi : IntsAre us ls) (h5 : ls.length = 5) (hok : OrdOk b ls)
    (hret : ∀ r ov no ps' Z' h' tk', Fr h₀ L h' m → News h₀ L h' (x1 :: x2 :: x3 :: (172, tabObj ps') :: Z') → (r, listOf (List.toArray ov) no) ∈ Z' → (∀ p ∈ Z, p ∈ Z') → (∀ p ∈ Z', @Ne Nat p.1 x1.1) → (∀ p ∈ Z', @Ne Nat p.1 x2.1) → (∀ p ∈ Z', @Ne Nat p.1 x3.1) → (∀ p ∈ Z', @Ne Nat p.1 172) → TabIn "_law_order.<locals>.<lambda>" ps' Z' → IntsAre ov (ordGo b ls 5) → TokIn s.toks tk' ov → Q (.ref r) { s with heap := h', toks := tk' }) :
    wpAny (model prog w) (ktrTop dp un gd cn cs L a ccd cl outer) (call (.ref 175) [.ref l, .bool b]) Q E s := by
  have N1 : News h₀ L s.heap ((172, tabObj ps) :: Z) := news_sub N fun p hp => .tail _ (.tail _ (.tail _ hp))
  have NR : News h₀ L s.heap [x1, x2, x3] := news_sub N fun p hp => by
    simp only [List.mem_cons, List.not_mem_nil, or_false] at hp ⊢
    rcases hp with rfl | rfl | rfl <;> simp
  have one : ∀ x : Addr × Obj, @Ne Nat x.1 172 → (∀ p ∈ Z, @Ne Nat p.1 x.1) → x.1 ∉ ((172, tabObj ps) :: Z).map (·.1) := fun x hx hz hm => by
    rcases List.mem_cons.mp hm with e | hm
    · exact hx e
    · obtain ⟨p, hp, e⟩ := List.mem_map.mp hm
      exact hz p hp e
  have hR : ∀ q ∈ [x1, x2, x3], q.1 ∉ ((172, tabObj ps) :: Z).map (·.1) := fun q hq => by
    simp only [List.mem_cons, List.not_mem_nil, or_false] at hq
    rcases hq with rfl | rfl | rfl
    · exact one _ n1 a1
    · exact one _ n2 a2
    · exact one _ n3 a3
  have fin : ∀ r ov no ps' D h' tk', Fr h₀ L h' m → News h₀ L h' ((r, listOf (List.toArray ov) no) :: (172, tabObj ps') :: D) → News h₀ L h' [x1, x2, x3] → (∀ q ∈ [x1, x2, x3], ∀ p ∈ (r, listOf (List.toArray ov) no) :: D, q.1 ≠ p.1) → (∀ p ∈ Z, p ∈ D) → (∀ p ∈ D, p.1 ≠ 172) → TabIn "_law_order.<locals>.<lambda>" ps' D → IntsAre ov (ordGo b ls 5) → TokIn s.toks tk' ov → Q (.ref r) { s with heap := h', toks := tk' } := fun r ov no ps' D h' tk' F' N' NR' ap sb a4' TB' io tk => by
    refine hret r ov no ps' ((r, listOf (List.toArray ov) no) :: D) h' tk' F' (news_sub (news_app NR' N') fun p hp => ?_) (.head _) (fun p hp => .tail _ (sb p hp)) (fun p hp => Ne.symm (ap _ (.head _) p hp)) (fun p hp => Ne.symm (ap _ (.tail _ (.head _)) p hp)) (fun p hp => Ne.symm (ap _ (.tail _ (.tail _ (.head _))) p hp)) (List.forall_mem_cons.mpr ⟨apart_tab N', a4'⟩) (TB'.mono fun p hp => .tail _ hp) io tk
    simp only [List.mem_cons, List.cons_append, List.nil_append] at hp ⊢
    rcases hp with h | h | h | h | h | h <;> simp [h]
  cases b with
  | true => exact c_orderR B F X N1 NR hR T hk hdp hun hC TB a4 hl hi h5 hok fin
  | false => exact c_orderL B F X N1 NR hR T hk hdp hun hC TB a4 hl hi h5 hok fin
theorem c_firsts3 {prog : Program} {w : World} {loose : List Str} {mean : ExcName → Option Value} {mg mb : Str → Option Value}
    {dp un : Nat} {gd : Option (List Code)} {cn : Str} {cs : Scope} {a : Addr} {ccd : Value} {cl : List (Str × Addr)} {outer : List Env} {A₀ : Around} {base h₀ : Heap} {L : Addr} {m : Str → Option Value} {s : Shared} {Q E : Value → Shared → Prop}
    {l ol : Addr} {n no : Nat} {us ov : List Value} {ls os : List Int} {ps : Array Value} {x1 x2 x3 : Addr × Obj} {Z : List (Addr × Obj)}
    (B : Below A₀ base outer h₀) (F : Fr h₀ L s.heap m) (X : (hd.heap_39 w.params).In h₀) (N : News h₀ L s.heap (x1 :: x2 :: (177, tabObj ps) :: x3 :: Z)) (T : Top topProg loose mean mg mb h₀) (hk : cs.kind = .function)
    (hdp : dp + 10 < recursionLimit) (hun : un + 300 < cLine) (hC : CodeHd h₀ 181 177) (TB : TabIn "_law_firsts.<locals>.<lambda>" ps Z) (a1 : ∀ p ∈ Z, @Ne Nat p.1 x1.1) (a2 : ∀ p ∈ Z, @Ne Nat p.1 x2.1) (a3 : ∀ p ∈ Z, @Ne Nat p.1 x3.1) (a4 : ∀ p ∈ Z, @Ne Nat p.1 177) (n1 : @Ne Nat x1.1 177) (n2 : @Ne Nat x2.1 177) (n3 : @Ne Nat x3.1 177)
    (hl : (l, listOf us.toArray n) ∈ Z) (hi : IntsAre us ls) (h5 : ls.length = 5) (hol : (ol, listOf ov.toArray no) ∈ Z) (hio : IntsAre ov os) (hro : ∀ o ∈ os, 0 ≤ o ∧ o < 5) (hlo : os.length < 1000) (h1 : 1 ≤ s.toks)
    (htl : ∀ a t, Value.int a t ∈ us → TokX us a t) (hto : ∀ a t, Value.int a t ∈ ov → t ≠ 0 ∧ t < s.toks ∧ -5 ≤ a ∧ a ≤ 256) (hok : FirstOk ls os)
    (hret : ∀ ps' Z' h' tk', Fr h₀ L h' m → News h₀ L h' (x1 :: x2 :: (177, tabObj ps') :: x3 :: Z') → (∀ p ∈ Z, p ∈ Z') → (∀ p ∈ Z', @Ne Nat p.1 x1.1) → (∀ p ∈ Z', @Ne Nat p.1 x2.1) → (∀ p ∈ Z', @Ne Nat p.1 x3.1) → (∀ p ∈ Z', @Ne Nat p.1 177) → TabIn "_law_firsts.<locals>.<lambda>" ps' Z' → Q (.bool true) { s with heap := h', toks := tk' }) :
    wpAny (model prog w) (ktrTop dp un gd cn cs L a ccd cl outer) (call (.ref 182) [.ref l, .ref ol]) Q E s := by
  have N1 : News h₀ L s.heap ((177, tabObj ps) :: Z) := news_sub N fun p hp => by
    rcases List.mem_cons.mp hp with rfl | hp
    · exact .tail _ (.tail _ (.head _))
    · exact .tail _ (.tail _ (.tail _ (.tail _ hp)))
  have NR : News h₀ L s.heap [x1, x2, x3] := news_sub N fun p hp => by
    simp only [List.mem_cons, List.not_mem_nil, or_false] at hp ⊢
    rcases hp with rfl | rfl | rfl <;> simp
  have one : ∀ x : Addr × Obj, @Ne Nat x.1 177 → (∀ p ∈ Z, @Ne Nat p.1 x.1) → x.1 ∉ ((177, tabObj ps) :: Z).map (·.1) := fun x hx hz hm => by
    rcases List.mem_cons.mp hm with e | hm
    · exact hx e
    · obtain ⟨p, hp, e⟩ := List.mem_map.mp hm
      exact hz p hp e
  have hR : ∀ q ∈ [x1, x2, x3], q.1 ∉ ((177, tabObj ps) :: Z).map (·.1) := fun q hq => by
    simp only [List.mem_cons, List.not_mem_nil, or_false] at hq
    rcases hq with rfl | rfl | rfl
    · exact one _ n1 a1
    · exact one _ n2 a2
    · exact one _ n3 a3
  refine c_firsts B F X N1 NR hR T hk hdp hun hC TB a4 hl hi h5 hol hio hro hlo h1 htl hto hok fun ps' D h' tk' F' N' NR' ap sb a4' TB' => ?_
  refine hret ps' D h' tk' F' (news_sub (news_app NR' N') fun p hp => ?_) sb (fun p hp => Ne.symm (ap _ (.head _) p hp)) (fun p hp => Ne.symm (ap _ (.tail _ (.head _)) p hp)) (fun p hp => Ne.symm (ap _ (.tail _ (.tail _ (.head _))) p hp)) a4' TB'
  simp only [List.mem_cons, List.cons_append, List.nil_append] at hp ⊢
  rcases hp with h | h | h | h | h <;> simp [h]
theorem sort5x {prog : Program} {w : World} {A : Around} {E : Value → Shared → Prop} {s : Shared} {h₀ : Heap} {L l : Addr} {m : Str → Option Value} {news : List (Addr × Obj)} {T0 T1 T2 T3 T4 : Addr} {x0 y0 x1 y1 x2 y2 x3 y3 x4 y4 : Tok} {c0 c1 c2 c3 c4 : Nat} {ls : List Int} {o0 o1 o2 o3 o4 : Int} {c : Nat} {Q : Value → Shared → Prop}
    (F : Fr h₀ L s.heap m) (N : News h₀ L s.heap news) (hm : (l, listOf (List.toArray [Value.ref T0, Value.ref T1, Value.ref T2, Value.ref T3, Value.ref T4]) c) ∈ news) (b0 : (T0, tupOf [.int (ls.getD 0 0) x0, .int 0 y0] c0) ∈ news) (b1 : (T1, tupOf [.int (ls.getD 1 0) x1, .int 1 y1] c1) ∈ news) (b2 : (T2, tupOf [.int (ls.getD 2 0) x2, .int 2 y2] c2) ∈ news) (b3 : (T3, tupOf [.int (ls.getD 3 0) x3, .int 3 y3] c3) ∈ news) (b4 : (T4, tupOf [.int (ls.getD 4 0) x4, .int 4 y4] c4) ∈ news) (hS : SortOk ls [o0, o1, o2, o3, o4]) (hr : ∀ o ∈ [o0, o1, o2, o3, o4], 0 ≤ o ∧ o < 5)
    (h : ∀ r c h' U0 U1 U2 U3 U4 u0 u1 u2 u3 u4 k0 k1 k2 k3 k4 v0 v1 v2 v3 v4, Fr h₀ L h' m → News h₀ L h' ((r, listOf (List.toArray [Value.ref U0, Value.ref U1, Value.ref U2, Value.ref U3, Value.ref U4]) c) :: news) → (∀ q ∈ news, q.1 < r) →
      (U0, tupOf [.int (ls.getD o0.toNat 0) u0, .int o0 v0] k0) ∈ news → (U1, tupOf [.int (ls.getD o1.toNat 0) u1, .int o1 v1] k1) ∈ news → (U2, tupOf [.int (ls.getD o2.toNat 0) u2, .int o2 v2] k2) ∈ news → (U3, tupOf [.int (ls.getD o3.toNat 0) u3, .int o3 v3] k3) ∈ news → (U4, tupOf [.int (ls.getD o4.toNat 0) u4, .int o4 v4] k4) ∈ news → Q (.ref r) { s with heap := h' }) :
    wpAny (model prog w) A (call (.builtin "sorted") [.ref l]) Q E s := by
  have hp : PairsIn news [Value.ref T0, Value.ref T1, Value.ref T2, Value.ref T3, Value.ref T4] (prs ls) := (.cons (.mk b0) (.cons (.mk b1) (.cons (.mk b2) (.cons (.mk b3) (.cons (.mk b4) .nil)))))
  refine sort5 F N hm b0 b1 b2 b3 b4 hS fun r c h' F' N' lt => ?_
  have get : ∀ o : Int, 0 ≤ o → o < 5 → ∃ U u v k, ([Value.ref T0, Value.ref T1, Value.ref T2, Value.ref T3, Value.ref T4] : List Value).getD o.toNat Value.none = .ref U ∧ (U, tupOf [.int (ls.getD o.toNat 0) u, .int o v] k) ∈ news := fun o h0 h1 => by
    obtain ⟨a, t, u, n, e, hm⟩ := pair_at hp (i := o.toNat) (by omega)
    rw [show ((o.toNat : Nat) : Int) = o by omega] at hm
    exact ⟨a, t, u, n, e, hm⟩
  simp only [List.forall_mem_cons, nil_all, and_true] at hr
  obtain ⟨U0, u0, v0, k0, e0, m0⟩ := get o0 hr.1.1 hr.1.2
  obtain ⟨U1, u1, v1, k1, e1, m1⟩ := get o1 hr.2.1.1 hr.2.1.2
  obtain ⟨U2, u2, v2, k2, e2, m2⟩ := get o2 hr.2.2.1.1 hr.2.2.1.2
  obtain ⟨U3, u3, v3, k3, e3, m3⟩ := get o3 hr.2.2.2.1.1 hr.2.2.2.1.2
  obtain ⟨U4, u4, v4, k4, e4, m4⟩ := get o4 hr.2.2.2.2.1 hr.2.2.2.2.2
  rw [List.map_cons, List.map_cons, List.map_cons, List.map_cons, List.map_cons, List.map_nil, e0, e1, e2, e3, e4] at N'
  exact h r c h' U0 U1 U2 U3 U4 u0 u1 u2 u3 u4 k0 k1 k2 k3 k4 v0 v1 v2 v3 v4 F' N' lt m0 m1 m2 m3 m4

end
section
theorem words_lawU : True := by
  k_with_none
  (k_with "CJ" => (with_reducible first | assumption | exact cj0 ‹_› | exact cj1 ‹_› | exact cl1 ‹_› | exact cj2 ‹_› | exact cl2 ‹_› | exact cj3 ‹_› | exact cl3 ‹_› | exact cj4 ‹_› | exact cl4 ‹_› | exact cj5 ‹_› | exact cl5 ‹_› | exact cj6 ‹_› | exact cl6 ‹_› | exact cj7 ‹_› | exact cl7 ‹_› | exact cj8 ‹_› | exact cl8 ‹_› | exact cj9 ‹_› | exact cl9 ‹_› | exact cj10 ‹_› | exact cl10 ‹_› | exact cj11 ‹_› | exact cl11 ‹_› | exact cj12 ‹_› | exact cl12 ‹_›))
  (k_with "k_ne" => (((refine neN ?_); (try dsimp only); first | exact Nat.ne_of_gt (by k_extra "CJ") | exact Nat.ne_of_lt (by k_extra "CJ") | k_extra "CJ" | exact Ne.symm (by k_extra "CJ"))))
  (k_with "ktr_room" => (first | exact rm0 ‹_› | exact rm1 ‹_› rfl | exact rm2 ‹_› rfl | exact rm3 ‹_› rfl))
  (k_with "ktr_units" => (first | exact rm0 ‹_› | exact rm1 ‹_› rfl | exact rm2 ‹_› rfl | exact rm3 ‹_› rfl))
  (k_with "k_mem" => (first | exact List.Mem.head _ | (refine' List.Mem.tail _ ?_; k_mem) | (show (_ : Addr × Obj) ∈ (_ : List (Addr × Obj)); with_reducible assumption)))
  (k_with "callWith ref" => ((k_here; k_dflt (first | (refine' callWith_K ?zzk1 ?zzk2 ?_; (case zzk1 => k_asm); (case zzk2 => k_is); k_whole) | (refine' callWith_KW ?zzk1 ?zzk2 ?zzk3 ?_; (case zzk1 => k_asm); (case zzk2 => k_is); (case zzk3 => exact rfl); k_whole)))))
  (k_with "call builtin:len" => ((k_here; (with_reducible show wpAny _ _ (call (Value.builtin "len") [Value.ref _]) _ _ _); k_dflt (refine' my_len ?zzk1 ?zzk2 ?zzk3 ?_; (case zzk1 => k_asm); (case zzk2 => k_mem); (case zzk3 => first | assumption | omega); k_whole))))
  (k_with "callWith ref" => ((k_here; k_dflt (refine' callWith_Fn1 ?zzkf ?_; (case zzkf => with_reducible assumption); k_whole))))
  (k_with "And" => (((with_reducible show IsFn _ _ ∧ _); refine ⟨KeyFn.get (by with_reducible assumption) (by k_in) (by k_asm), ?_⟩; try dsimp only [List.nil_append, List.cons_append])))
  (k_with "CompEnd" => ((k_dflt (refine' compEnd_same ?zzF ?zzN ?zzoff ?zzsrc ?_; (case zzF => k_asm); (case zzN => k_asm); (case zzoff => first | assumption | ((simp only [LCg.Off3, and_true]); first | done | assumption)); (case zzsrc => lcg_src)))))
  (k_with "k_all" => (first | (with_reducible assumption) | exact List.forall_mem_nil _ | (refine' List.forall_mem_cons.mpr ⟨?zzka, ?zzkb⟩; (case zzka => k_ne); (case zzkb => k_all))))
  (k_with "CompSrc" => ((k_here; k_dflt (refine KeepSrc.out ?_))))
  (k_with "binaryOp Pow int int" => ((k_here; (with_reducible refine pow_int_small ?zzkb1 ?zzkb2 ?zzkb3 ?_); (case zzkb1 => omega); (case zzkb2 => omega); (case zzkb3 => decide))))
  (k_with "binaryOp FloorDiv int int" => ((k_here; (with_reducible refine floordiv_int ?zzkb1 ?_ (Or.inl (PyProof.noPylong_small ?zzkb2))); (case zzkb1 => exact pow4_ne _); (case zzkb2 => exact pow4_small (by assumption)))))
  (k_with "eval ListComp" => ((k_here; k_dflt (first
  | ((with_reducible show wpAny _ _ (eval (PySem.Expr.ListComp (PySem.Expr.BinOp _ _ (PySem.Expr.Constant _ _ _) _) _ _ _) _) _ _ _); (rename Fr _ _ _ _ => lFt); (refine ListComp_tok (h₀ := ghostIs lFt) (L := frameIs lFt) (m := localsIs lFt) (by with_unfolding_all rfl) (by decide) (by rfl) (by decide) (by rfl) ?_); (try dsimp only [ghostIs, frameIs, localsIs]))
  | ((with_reducible show wpAny _ _ (eval (PySem.Expr.ListComp _ [⟨PySem.Expr.Name _ _, _, _, _⟩] _ _) _) _ _ _); refine LCg.ListComp_U (F₀ := by k_asm) (by with_unfolding_all rfl) (by decide) (by rfl) (by decide) (by rfl) ?_)))))
  (k_with "execs cons" => (((with_reducible refine execs_grow ?_); try dsimp only)))
  (k_with "Grown" => ((refine Grown.intro fun hg9 => ?_; (try dsimp only at hg9))))
  exact True.intro
theorem words_lawU_1 : True := by
  (k_with "SUBL" => ((intros p9 h9; (repeat (first | exact h9 | refine List.Mem.tail _ ?_)))))
  (k_with "eval ListComp" => ((k_here; lcp_look; lcg_calm; k_dflt (refine LCp.ListComp_P (F₀ := by k_asm) (by with_unfolding_all rfl) (by decide) (by rfl) (by decide) (by rfl) (by rfl) (by decide) ?_))))
  (k_with "CompSrc" => ((k_here; k_dflt (refine LCg.CompSrc.range (by rfl) (by k_asm) (by k_asm) (by assumption) (by first | decide | rfl) (by first | rfl | decide) (by first | size_fits | exact Nat.le_of_ble_eq_true rfl) ?_; intro g'; lcg_lit))))
  (k_with "CompEnd" => ((k_dflt (first | (refine' compEnd_push ?zzF ?zzN ?zzo1 ?zzo2 ?zzo3 ?zzoff ?zzsrc ?_; (case zzF => k_asm); (case zzN => k_asm); (case zzo1 => k_ne); (case zzo2 => k_ne); (case zzo3 => k_ne); (case zzoff => first | assumption | ((simp only [LCg.Off3, and_true]); first | done | assumption)); (case zzsrc => lcg_src)) | (refine' compEnd_same ?zzF ?zzN ?zzoff ?zzsrc ?_; (case zzF => k_asm); (case zzN => k_asm); (case zzoff => first | assumption | ((simp only [LCg.Off3, and_true]); first | done | assumption)); (case zzsrc => lcg_src))))))
  exact True.intro
theorem ord_toks {lo hi n : Nat} {ov : List Value} {os : List Int} (h : TokIn lo hi ov) (h1 : 1 ≤ lo) (h2 : hi ≤ n) (io : IntsAre ov os) (ro : ∀ o ∈ os, 0 ≤ o ∧ o < 5) : ∀ a t, Value.int a t ∈ ov → t ≠ 0 ∧ t < n ∧ -5 ≤ a ∧ a ≤ 256 := fun a t hm => by
  have h3 := h a t hm
  have h3a : @LE.le Nat _ lo t := h3.1
  have h3b : @LT.lt Nat _ t hi := h3.2
  have h4 := ro a (ints_val io hm)
  exact ⟨(by show ¬ @Eq Nat t 0; omega), (by show @LT.lt Nat _ t n; omega), by omega, by omega⟩
theorem law_u {prog : Program} {w : World} {loose : List Str} {mean : ExcName → Option Value} {mg mb : Str → Option Value} {g : Heap} {L : Nat} {f₀ : Addr} {cd : Value} {scope : Scope} {rest : List Stmt} {t0 t1 t2 t3 t4 t5 : Stmt} {s : Shared} {l : Addr} {z : Str → Option Value} {Q : Flow → Shared → Prop} {E : Value → Shared → Prop}
    {b : Bool} {Z : List (Addr × Obj)} {I MS NB fa za LN : Addr} {oI o5 : Obj} {cn : Nat} {ps ps2 : Array Value} {lv : List Value} {ls : List Int} {o0 o1 o2 o3 o4 : Int} {sts : List Int} {M : Int} {Mt : Tok}
    (hS : fnScope w.params 213 = some scope) (hBd : lawTurn w.params = t0 :: t1 :: t2 :: t3 :: t4 :: t5 :: rest)
    (B : Below callerA g [] g) (X : (hd.heap_39 w.params).In g) (T : Top topProg loose mean mg mb g) (F : Fr g L s.heap (fun y => if y = "behind" then some (.bool b) else if turnS.contains y then z y else if y = "numbers" then some (.ref NB) else if y = "message" then some (.ref MS) else if y = "steepest" then some (.ref za) else if y = "flattest" then some (.ref fa) else if y = "least" then some (.int M Mt) else if y = "script" then some (.ref l) else none))
    (N : News g L s.heap ((I, oI) :: ((L + 1 + 1 + 1 + 1 + 1 : Nat), o5) :: (177, tabObj ps2) :: (172, tabObj ps) :: Z)) (d5 : o5.data = .cell (some (.ref LN))) (aI : ∀ p ∈ Z, @Ne Nat p.1 I) (a5 : ∀ p ∈ Z, @Ne Nat p.1 (L + 1 + 1 + 1 + 1 + 1 : Nat)) (a7 : ∀ p ∈ Z, @Ne Nat p.1 177) (a2 : ∀ p ∈ Z, @Ne Nat p.1 172) (l0 : (177 : Nat) < L ∧ (172 : Nat) < L) (lI : (L + 1 + 1 + 1 + 1 + 1 : Nat) < I)
    (hC1 : CodeHd g 181 177) (hC2 : CodeHd g 174 172) (TB1 : TabIn "_law_order.<locals>.<lambda>" ps Z) (TB2 : TabIn "_law_firsts.<locals>.<lambda>" ps2 Z) (hLN : (LN, listOf (List.toArray lv) cn) ∈ Z) (hi : IntsAre lv ls) (h5 : ls.length = 5) (htl : ∃ k, TokOk k lv) (ht1 : 1 ≤ s.toks)
    (hO : Sealed (OrdOk b ls ∧ ordGo b ls 5 = [o0, o1, o2, o3, o4])) (hV : Sealed (VecP ls [o0, o1, o2, o3, o4] sts))
    (hPE : PassesOwn (model prog w) (callerA.deeper (envOfC "law" scope L f₀ cd)) (envOfC "law" scope L f₀ cd) E)
    (hret : ∀ (h' : Heap) (tk' : Nat) (ps' ps2' : Array Value) (Z' : List (Addr × Obj)) (OL : Addr) (ov : List Value) (no : Nat),
      Fr g L h' (fun y => if y = "order" then some (.ref OL) else if y = "behind" then some (.bool b) else if turnS.contains y then z y else if y = "numbers" then some (.ref NB) else if y = "message" then some (.ref MS) else if y = "steepest" then some (.ref za) else if y = "flattest" then some (.ref fa) else if y = "least" then some (.int M Mt) else if y = "script" then some (.ref l) else none) → News g L h' ((I, oI) :: ((L + 1 + 1 + 1 + 1 + 1 : Nat), o5) :: (177, tabObj ps2') :: (172, tabObj ps') :: Z') → (∀ p ∈ Z, p ∈ Z') → (∀ p ∈ Z', @Ne Nat p.1 I) → (∀ p ∈ Z', @Ne Nat p.1 (L + 1 + 1 + 1 + 1 + 1 : Nat)) → (∀ p ∈ Z', @Ne Nat p.1 177) → (∀ p ∈ Z', @Ne Nat p.1 172) → TabIn "_law_order.<locals>.<lambda>" ps' Z' → TabIn "_law_firsts.<locals>.<lambda>" ps2' Z' → (OL, listOf (List.toArray ov) no) ∈ Z' → IntsAre ov [o0, o1, o2, o3, o4] → (∀ a t, Value.int a t ∈ ov → s.toks ≤ t) → s.toks ≤ tk' →
      wpAny (model prog w) (callerA.deeper (envOfC "law" scope L f₀ cd)) (execs rest (envOfC "law" scope L f₀ cd)) Q E { s with heap := h', toks := tk' }) :
    wpAny (model prog w) (callerA.deeper (envOfC "law" scope L f₀ cd)) (execs (t3 :: t4 :: t5 :: rest) (envOfC "law" scope L f₀ cd)) Q E s := by
  k_with "EPSON" => skip
  k_with "NE9" => repeat (with_reducible first | exact neSh | exact neAr | exact neEx | exact neWo | refine neP ?_ ?_ | infer_instance)
  k_with "RangeRest" => first
    | ((with_unfolding_all refine RangeRest.succ ?_); intro t' h' tk' F' N')
    | ((with_unfolding_all refine RangeRest.zero ?_); intro h' tk' F' N')
  k_with "CompRest" => first
    | ((with_unfolding_all refine LCg.CompRest.succ ?_); (first | (k_extra "EPSON"; refine no_implicit_lambda% (all_eps10 (i := by k_extra "NE9") ?_); generalize pj0 _ = v', pj1 _ = I', pj2 _ = oI', pj3 _ = C', pj4 _ = oC', pj5 _ = D', pj6 _ = m', pj7 _ = h', pj8 _ = tk', pj9 _ = E'; intro hv' hC' hx' F' N' off' ne') | intro v' I' oI' C' oC' D' m' h' tk' E' hv' hC' hx' F' N' off' ne'); (first | lcg_open hv' | (refine ex_elim hv' ?_; clear hv'; intro t9' hv9'; subst hv9')); (try simp only [LCg.Off3, and_true] at off'))
    | with_unfolding_all refine LCg.CompRest.zero ?_
  k_with "EPS1" => (refine no_implicit_lambda% (all_eps (i := by k_extra "NE9") ?_); generalize eps _ _ = xE9)
  k_with "EPSCELLS" => first
    | (have hY := PyProof.Rows.CellsAre.one Y'; refine ex_elim hY ?_; clear hY; intro o' hE'; obtain ⟨hE', d1'⟩ := hE'; subst hE'; clear Y')
    | (have hY := PyProof.Rows.CellsAre.two Y'; refine ex_elim hY ?_; clear hY; intro o' hY; refine ex_elim hY ?_; clear hY; intro o2' hY; obtain ⟨hE', d1', d2'⟩ := hY; subst hE'; clear Y')
    | (have hY := PyProof.Rows.CellsAre.three Y'; refine ex_elim hY ?_; clear hY; intro o' hY; refine ex_elim hY ?_; clear hY; intro o2' hY; refine ex_elim hY ?_; clear hY; intro o3' hY; obtain ⟨hE', d1', d2', d3'⟩ := hY; subst hE'; clear Y')
  k_with "EPSENT" => skip
  revert hS hBd B X T F N d5 aI a5 a7 a2 l0 lI hC1 hC2 TB1 TB2 hLN hi h5 htl ht1 hO hV hPE hret
  revert prog w loose mean mg mb g L f₀ cd scope rest t0 t1 t2 t3 t4 t5 s l z Q E b Z I MS NB fa za LN oI o5 cn ps ps2 lv ls o0 o1 o2 o3 o4 sts M Mt
  refine no_implicit_lambda% (all_eps24 (i := by k_extra "NE9") ?_); generalize pj0 _ = prog, pj1 _ = w, pj2 _ = loose, pj3 _ = mean, pj4 _ = mg, pj5 _ = mb, pj6 _ = g, pj7 _ = L, pj8 _ = f₀, pj9 _ = cd, pj10 _ = scope, pj11 _ = rest, pj12 _ = t0, pj13 _ = t1, pj14 _ = t2, pj15 _ = t3, pj16 _ = t4, pj17 _ = t5, pj18 _ = s, pj19 _ = l, pj20 _ = z, pj21 _ = Q, pj22 _ = E, pj23 _ = b; refine no_implicit_lambda% (all_eps22 (i := by k_extra "NE9") ?_); generalize pj0 _ = Z, pj1 _ = I, pj2 _ = MS, pj3 _ = NB, pj4 _ = fa, pj5 _ = za, pj6 _ = LN, pj7 _ = oI, pj8 _ = o5, pj9 _ = cn, pj10 _ = ps, pj11 _ = ps2, pj12 _ = lv, pj13 _ = ls, pj14 _ = o0, pj15 _ = o1, pj16 _ = o2, pj17 _ = o3, pj18 _ = o4, pj19 _ = sts, pj20 _ = M, pj21 _ = Mt
  intros hS hBd B X T F N d5 aI a5 a7 a2 l0 lI hC1 hC2 TB1 TB2 hLN hi h5 htl ht1 hO hV hPE hret
  injection (show some _ = some scope from hS) with e0
  subst e0
  injection (show _ :: _ = t0 :: t1 :: t2 :: t3 :: t4 :: t5 :: rest from hBd) with e0 e1
  injection e1 with e1 e2
  injection e2 with e2 e3
  injection e3 with e3 e4
  injection e4 with e4 e5
  injection e5 with e5 e6
  subst e3 e4 e5
  clear hS hBd e0 e1 e2 e6
  have hcl : @Ne Nat (L + 1 + 1 + 1 + 1 + 1 : Nat) 172 ∧ @Ne Nat (L + 1 + 1 + 1 + 1 + 1 : Nat) 177 ∧ @Ne Nat I 172 ∧ @Ne Nat I 177 ∧ @Ne Nat I (L + 1 + 1 + 1 + 1 + 1 : Nat) := by refine ⟨?_, ?_, ?_, ?_, ?_⟩ <;> omega
  have hs9 := hV.eq.sort
  have hr9 := hV.eq.rng
  have hf9 := hV.eq.first
  obtain ⟨kt9, htl⟩ := htl
  k_with_none
  (k_with "CJ" => (with_reducible first | assumption | exact cj0 ‹_› | exact cj1 ‹_› | exact cl1 ‹_› | exact cj2 ‹_› | exact cl2 ‹_› | exact cj3 ‹_› | exact cl3 ‹_› | exact cj4 ‹_› | exact cl4 ‹_› | exact cj5 ‹_› | exact cl5 ‹_› | exact cj6 ‹_› | exact cl6 ‹_› | exact cj7 ‹_› | exact cl7 ‹_› | exact cj8 ‹_› | exact cl8 ‹_› | exact cj9 ‹_› | exact cl9 ‹_› | exact cj10 ‹_› | exact cl10 ‹_› | exact cj11 ‹_› | exact cl11 ‹_› | exact cj12 ‹_› | exact cl12 ‹_›))
  (k_with "k_ne" => (((refine neN ?_); (try dsimp only); first | exact Nat.ne_of_gt (by k_extra "CJ") | exact Nat.ne_of_lt (by k_extra "CJ") | k_extra "CJ" | exact Ne.symm (by k_extra "CJ"))))
  (k_with "ktr_room" => (first | exact rm0 ‹_› | exact rm1 ‹_› rfl | exact rm2 ‹_› rfl | exact rm3 ‹_› rfl))
  (k_with "ktr_units" => (first | exact rm0 ‹_› | exact rm1 ‹_› rfl | exact rm2 ‹_› rfl | exact rm3 ‹_› rfl))
  (k_with "k_mem" => (first | exact List.Mem.head _ | (refine' List.Mem.tail _ ?_; k_mem) | (show (_ : Addr × Obj) ∈ (_ : List (Addr × Obj)); with_reducible assumption)))
  (k_with "callWith ref" => ((k_here; k_dflt (first | (refine' callWith_K ?zzk1 ?zzk2 ?_; (case zzk1 => k_asm); (case zzk2 => k_is); k_whole) | (refine' callWith_KW ?zzk1 ?zzk2 ?zzk3 ?_; (case zzk1 => k_asm); (case zzk2 => k_is); (case zzk3 => exact rfl); k_whole)))))
  (k_with "call builtin:len" => ((k_here; (with_reducible show wpAny _ _ (call (Value.builtin "len") [Value.ref _]) _ _ _); k_dflt (refine' my_len ?zzk1 ?zzk2 ?zzk3 ?_; (case zzk1 => k_asm); (case zzk2 => k_mem); (case zzk3 => first | assumption | omega); k_whole))))
  (k_with "callWith ref" => ((k_here; k_dflt (refine' callWith_Fn1 ?zzkf ?_; (case zzkf => with_reducible assumption); k_whole))))
  (k_with "And" => (((with_reducible show IsFn _ _ ∧ _); refine ⟨KeyFn.get (by with_reducible assumption) (by k_in) (by k_asm), ?_⟩; try dsimp only [List.nil_append, List.cons_append])))
  (k_with "CompEnd" => ((k_dflt (refine' compEnd_same ?zzF ?zzN ?zzoff ?zzsrc ?_; (case zzF => k_asm); (case zzN => k_asm); (case zzoff => first | assumption | ((simp only [LCg.Off3, and_true]); first | done | assumption)); (case zzsrc => lcg_src)))))
  (k_with "k_all" => (first | (with_reducible assumption) | exact List.forall_mem_nil _ | (refine' List.forall_mem_cons.mpr ⟨?zzka, ?zzkb⟩; (case zzka => k_ne); (case zzkb => k_all))))
  (k_with "CompSrc" => ((k_here; k_dflt (refine KeepSrc.out ?_))))
  (k_with "binaryOp Pow int int" => ((k_here; (with_reducible refine pow_int_small ?zzkb1 ?zzkb2 ?zzkb3 ?_); (case zzkb1 => omega); (case zzkb2 => omega); (case zzkb3 => decide))))
  (k_with "binaryOp FloorDiv int int" => ((k_here; (with_reducible refine floordiv_int ?zzkb1 ?_ (Or.inl (PyProof.noPylong_small ?zzkb2))); (case zzkb1 => exact pow4_ne _); (case zzkb2 => exact pow4_small (by assumption)))))
  (k_with "eval ListComp" => ((k_here; k_dflt (first
  | ((with_reducible show wpAny _ _ (eval (PySem.Expr.ListComp (PySem.Expr.BinOp _ _ (PySem.Expr.Constant _ _ _) _) _ _ _) _) _ _ _); (rename Fr _ _ _ _ => lFt); (refine ListComp_tok (h₀ := ghostIs lFt) (L := frameIs lFt) (m := localsIs lFt) (by with_unfolding_all rfl) (by decide) (by rfl) (by decide) (by rfl) ?_); (try dsimp only [ghostIs, frameIs, localsIs]))
  | ((with_reducible show wpAny _ _ (eval (PySem.Expr.ListComp _ [⟨PySem.Expr.Name _ _, _, _, _⟩] _ _) _) _ _ _); refine LCg.ListComp_U (F₀ := by k_asm) (by with_unfolding_all rfl) (by decide) (by rfl) (by decide) (by rfl) ?_)))))
  (k_with "execs cons" => (((with_reducible refine execs_grow ?_); try dsimp only)))
  (k_with "Grown" => ((refine Grown.intro fun hg9 => ?_; (try dsimp only at hg9))))
  (k_with "SUBL" => ((intros p9 h9; (repeat (first | exact h9 | refine List.Mem.tail _ ?_)))))
  (k_with "eval ListComp" => ((k_here; lcp_look; lcg_calm; k_dflt (refine LCp.ListComp_P (F₀ := by k_asm) (by with_unfolding_all rfl) (by decide) (by rfl) (by decide) (by rfl) (by rfl) (by decide) ?_))))
  (k_with "CompSrc" => ((k_here; k_dflt (refine LCg.CompSrc.range (by rfl) (by k_asm) (by k_asm) (by assumption) (by first | decide | rfl) (by first | rfl | decide) (by first | size_fits | exact Nat.le_of_ble_eq_true rfl) ?_; intro g'; lcg_lit))))
  (k_with "CompEnd" => ((k_dflt (first | (refine' compEnd_push ?zzF ?zzN ?zzo1 ?zzo2 ?zzo3 ?zzoff ?zzsrc ?_; (case zzF => k_asm); (case zzN => k_asm); (case zzo1 => k_ne); (case zzo2 => k_ne); (case zzo3 => k_ne); (case zzoff => first | assumption | ((simp only [LCg.Off3, and_true]); first | done | assumption)); (case zzsrc => lcg_src)) | (refine' compEnd_same ?zzF ?zzN ?zzoff ?zzsrc ?_; (case zzF => k_asm); (case zzN => k_asm); (case zzoff => first | assumption | ((simp only [LCg.Off3, and_true]); first | done | assumption)); (case zzsrc => lcg_src))))))
  (k_with "call ref" => (first
    | ((with_reducible show wpAny _ _ (call (Value.ref 175) _) _ _ _); k_dflt (refine' c_order b (ls := ls) (Z := Z) (x1 := (I, oI)) (x2 := ((L + 1 + 1 + 1 + 1 + 1 : Nat), o5)) (x3 := (177, tabObj ps2)) ?k1 ?k2 ?k3 ?k4 ?k5 ?kK ?kd ?ku hC2 TB1 aI a5 a7 a2 ?n1 ?n2 ?n3 hLN hi h5 hO.eq.1 ?_; (case k1 => k_asm); (case k2 => k_asm); (case k3 => k_asm); (case k4 => k_asm); (case k5 => k_asm); (case kK => exact rfl); (case kd => ktr_room); (case ku => ktr_units); (case n1 => exact hcl.2.2.1); (case n2 => exact hcl.1); (case n3 => exact (show @Ne Nat 177 172 by decide)); k_whole); intro OL ov8 no8 ps8 Z8 h8 tk8 F8 N8 hO8 sb8 aI8 a58 a78 a28 TB18 io8 tok8; k_dflt (rw [hO.eq.2] at io8); (have TB28 := TB2.mono sb8); (have hL8 := sb8 _ hLN); (try dsimp only); (try k_fold))
    | ((with_reducible show wpAny _ _ (call (Value.ref 182) _) _ _ _); k_dflt (refine' c_firsts3 (ls := ls) (os := [o0, o1, o2, o3, o4]) (Z := Z8) (x1 := (I, oI)) (x2 := ((L + 1 + 1 + 1 + 1 + 1 : Nat), o5)) (x3 := (172, tabObj ps8)) ?j1 ?j2 ?j3 ?j4 ?j5 ?jK ?jd ?ju hC1 TB28 aI8 a58 a28 a78 ?m1 ?m2 ?m3 hL8 hi h5 hO8 io8 hr9 ?jl ?jt ?jx ?jy hf9 ?_; (case j1 => k_asm); (case j2 => k_asm); (case j3 => k_asm); (case j4 => (refine' news_sub ?j4N ?j4S; (case j4N => with_reducible assumption); (case j4S => (walk_at "SUBL")))); (case j5 => k_asm); (case jK => exact rfl); (case jd => ktr_room); (case ju => ktr_units); (case m1 => exact hcl.2.2.2.1); (case m2 => exact hcl.2.1); (case m3 => exact (show @Ne Nat 172 177 by decide)); (case jl => exact (show 5 < 1000 by decide)); (case jt => exact Nat.le_trans ht1 (Nat.le_trans (show s.toks ≤ tk8 + 1 by assumption) (by assumption))); (case jx => exact lens_tokx htl hi hV.eq.sml); (case jy => exact ord_toks tok8 ht1 (Nat.le_trans (Nat.le_succ _) (by assumption)) io8 hr9); k_whole); intro ps7 Z7 h7 tk7 F7 N7 sb7 aI7 a57 a27 a77 TB27; (try dsimp only); (try k_fold))))
  (k_with "subscriptTail Name Name ref int" => (k_dflt (refine' my_itemI ?N ?kl hi ?k1 ?k2 ?k3 ?_; (case N => k_asm); (case kl => k_mem); (case k1 => omega); (case k2 => (rw [h5]; omega)); (case k3 => (rw [h5]; decide))); intro t8))
  (k_with "call builtin:sorted" => (k_dflt (refine' sort5x (ls := ls) ?F ?N ?kl ?b0 ?b1 ?b2 ?b3 ?b4 hs9 hr9 ?_; (case F => k_asm); (case N => k_asm); (case kl => k_mem); (case b0 => k_mem); (case b1 => k_mem); (case b2 => k_mem); (case b3 => k_mem); (case b4 => k_mem)); intro r5 c5 h5' U0 U1 U2 U3 U4 u0 u1 u2 u3 u4 k0 k1 k2 k3 k4 v0 v1 v2 v3 v4 F5 N5 l5 m0 m1 m2 m3 m4; (try k_lt l5); (try dsimp only); (try k_fold)))
  (k_with "MEMT" => (first | exact m0 | exact m1 | exact m2 | exact m3 | exact m4 | ((k_dflt (refine List.Mem.tail _ ?_)); (k_dflt (show (_ : Addr × Obj) ∈ (_ : List (Addr × Obj)))); walk_at "MEMT")))
  (k_with "CompRestP" => (first
    | ((with_unfolding_all refine LCp.CompRestP.succ ?_); intro v' hv'; lcg_open hv'; (with_unfolding_all refine ⟨_, _, _, _, _, rfl, by (with_reducible walk_at "MEMT"), rfl, rfl, ?_⟩); intro I' oI' C' oC' D' m' h' tk' E' hC' hx' hy' F' N' off' ne'; (try simp only [LCg.Off3, and_true] at off'))
    | with_unfolding_all refine LCp.CompRestP.zero ?_))
  (k_with "compareOp NotEq ref ref" => (k_dflt (refine' ne_two ?N ?ka ?kb io8 ?kj ?ku ?_; (case N => k_asm); (case ka => k_mem); (case kb => k_mem); (case kj => exact .cons _ _ (.cons _ _ (.cons _ _ (.cons _ _ (.cons _ _ .nil))))); (case ku => ktr_units))))
  k_steps
  · (rename News _ _ _ _ => N9); (rename Fr _ _ _ _ => F9)
    refine hret _ _ _ _ _ OL ov8 no8 F9 N9 (fun p hp => sb7 p (sb8 p hp)) aI7 a57 a77 a27 (TB18.mono sb7) TB27 (sb7 _ hO8) io8 (fun a t hm => (tok8 a t hm).1) (Nat.le_trans (show s.toks ≤ tk8 + 1 by assumption) ?_)
    (rename tk8 + 1 ≤ _ => hA9)
    exact Nat.le_trans hA9 (by assumption)

end
section
theorem words_lawV1 : True := by
  k_with_none
  (k_with "CJ" => (with_reducible first | assumption | exact cj0 ‹_› | exact cj1 ‹_› | exact cl1 ‹_› | exact cj2 ‹_› | exact cl2 ‹_› | exact cj3 ‹_› | exact cl3 ‹_› | exact cj4 ‹_› | exact cl4 ‹_› | exact cj5 ‹_› | exact cl5 ‹_› | exact cj6 ‹_› | exact cl6 ‹_› | exact cj7 ‹_› | exact cl7 ‹_› | exact cj8 ‹_› | exact cl8 ‹_› | exact cj9 ‹_› | exact cl9 ‹_› | exact cj10 ‹_› | exact cl10 ‹_› | exact cj11 ‹_› | exact cl11 ‹_› | exact cj12 ‹_› | exact cl12 ‹_›))
  (k_with "k_ne" => (((refine neN ?_); (try dsimp only); first | exact Nat.ne_of_gt (by k_extra "CJ") | exact Nat.ne_of_lt (by k_extra "CJ") | k_extra "CJ" | exact Ne.symm (by k_extra "CJ"))))
  (k_with "ktr_room" => (first | exact rm0 ‹_› | exact rm1 ‹_› rfl | exact rm2 ‹_› rfl | exact rm3 ‹_› rfl))
  (k_with "ktr_units" => (first | exact rm0 ‹_› | exact rm1 ‹_› rfl | exact rm2 ‹_› rfl | exact rm3 ‹_› rfl))
  (k_with "k_mem" => (first | exact List.Mem.head _ | (refine' List.Mem.tail _ ?_; k_mem) | (show (_ : Addr × Obj) ∈ (_ : List (Addr × Obj)); with_reducible assumption)))
  (k_with "callWith ref" => ((k_here; k_dflt (first | (refine' callWith_K ?zzk1 ?zzk2 ?_; (case zzk1 => k_asm); (case zzk2 => k_is); k_whole) | (refine' callWith_KW ?zzk1 ?zzk2 ?zzk3 ?_; (case zzk1 => k_asm); (case zzk2 => k_is); (case zzk3 => exact rfl); k_whole)))))
  (k_with "call builtin:len" => ((k_here; (with_reducible show wpAny _ _ (call (Value.builtin "len") [Value.ref _]) _ _ _); k_dflt (refine' my_len ?zzk1 ?zzk2 ?zzk3 ?_; (case zzk1 => k_asm); (case zzk2 => k_mem); (case zzk3 => first | assumption | omega); k_whole))))
  (k_with "callWith ref" => ((k_here; k_dflt (refine' callWith_Fn1 ?zzkf ?_; (case zzkf => with_reducible assumption); k_whole))))
  (k_with "And" => (((with_reducible show IsFn _ _ ∧ _); refine ⟨KeyFn.get (by with_reducible assumption) (by k_in) (by k_asm), ?_⟩; try dsimp only [List.nil_append, List.cons_append])))
  (k_with "CompEnd" => ((k_dflt (refine' compEnd_same ?zzF ?zzN ?zzoff ?zzsrc ?_; (case zzF => k_asm); (case zzN => k_asm); (case zzoff => first | assumption | ((simp only [LCg.Off3, and_true]); first | done | assumption)); (case zzsrc => lcg_src)))))
  (k_with "k_all" => (first | (with_reducible assumption) | exact List.forall_mem_nil _ | (refine' List.forall_mem_cons.mpr ⟨?zzka, ?zzkb⟩; (case zzka => k_ne); (case zzkb => k_all))))
  (k_with "CompSrc" => ((k_here; k_dflt (refine KeepSrc.out ?_))))
  (k_with "binaryOp Pow int int" => ((k_here; (with_reducible refine pow_int_small ?zzkb1 ?zzkb2 ?zzkb3 ?_); (case zzkb1 => omega); (case zzkb2 => omega); (case zzkb3 => decide))))
  (k_with "binaryOp FloorDiv int int" => ((k_here; (with_reducible refine floordiv_int ?zzkb1 ?_ (Or.inl (PyProof.noPylong_small ?zzkb2))); (case zzkb1 => exact pow4_ne _); (case zzkb2 => exact pow4_small (by assumption)))))
  (k_with "eval ListComp" => ((k_here; k_dflt (first
  | ((with_reducible show wpAny _ _ (eval (PySem.Expr.ListComp (PySem.Expr.BinOp _ _ (PySem.Expr.Constant _ _ _) _) _ _ _) _) _ _ _); (rename Fr _ _ _ _ => lFt); (refine ListComp_tok (h₀ := ghostIs lFt) (L := frameIs lFt) (m := localsIs lFt) (by with_unfolding_all rfl) (by decide) (by rfl) (by decide) (by rfl) ?_); (try dsimp only [ghostIs, frameIs, localsIs]))
  | ((with_reducible show wpAny _ _ (eval (PySem.Expr.ListComp _ [⟨PySem.Expr.Name _ _, _, _, _⟩] _ _) _) _ _ _); refine LCg.ListComp_U (F₀ := by k_asm) (by with_unfolding_all rfl) (by decide) (by rfl) (by decide) (by rfl) ?_)))))
  (k_with "execs cons" => (((with_reducible refine execs_grow ?_); try dsimp only)))
  (k_with "Grown" => ((refine Grown.intro fun hg9 => ?_; (try dsimp only at hg9))))
  exact True.intro
/-- the message's places: six of 1 to 4, then the end's -/
abbrev msL (p0 p1 p2 p3 p4 p5 : Int) : List Int := [p0, p1, p2, p3, p4, p5, 0]
theorem ms_rng {p0 p1 p2 p3 p4 p5 : Int} (h : ∀ p ∈ [p0, p1, p2, p3, p4, p5], 1 ≤ p ∧ p ≤ 4) : ∀ p ∈ msL p0 p1 p2 p3 p4 p5, 0 ≤ p ∧ p < 5 := by
  simp only [List.forall_mem_cons, nil_all, and_true] at h
  unfold msL
  simp only [List.forall_mem_cons, nil_all, and_true]
  omega
theorem getD_le4 {ls : List Int} (h : ∀ x ∈ ls, 1 ≤ x ∧ x ≤ 4) (j : Nat) : (ls.getD j 0).toNat ≤ 4 := by
  rw [List.getD_eq_getElem?_getD]
  cases e : ls[j]? with
  | none => decide
  | some x =>
    have := h x (List.mem_of_getElem? e)
    show x.toNat ≤ 4
    omega
theorem szs_le {ls : List Int} (h : ∀ x ∈ ls, 1 ≤ x ∧ x ≤ 4) : ∀ ms : List Int, szs ls ms ≤ 4 * ms.length
  | [] => Nat.le_refl _
  | p :: r => by
    rw [szs_cons, List.length_cons]
    have := getD_le4 h p.toNat
    have := szs_le h r
    omega
/-- number and size of a message, named -/
structure WrOk (ls os sts ms : List Int) (num siz : Int) : Prop where
  wr : wr ls os sts ms = (num, siz)
  sz : siz = (szs ls ms : Int)
  small : num.natAbs < 2 ^ 64
theorem wr_named {ls os sts ms : List Int} (V : VecP ls os sts) (hm : ∀ p ∈ ms, 0 ≤ p ∧ p < 5) (hl : ms.length < 16) : ∃ num siz, WrOk ls os sts ms num siz := by
  refine ⟨(wr ls os sts ms).1, (wr ls os sts ms).2, rfl, ?_, ?_⟩
  · rw [wr_two, V.size ms hm]
  · obtain ⟨h0, h1⟩ := V.bound ms hm
    have h2 := szs_le V.sml ms
    have h3 : (2 : Int) ^ szs ls ms ≤ 2 ^ 64 := by exact_mod_cast Nat.pow_le_pow_right (n := 2) (by decide) (show szs ls ms ≤ 64 by omega)
    have d : (2 : Int) ^ 64 = 18446744073709551616 := by decide
    have e : (2 : Nat) ^ 64 = 18446744073709551616 := by decide
    rw [e]
    omega
theorem end_ok {r p0 p1 p2 p3 p4 p5 : Int} (r0 : 0 ≤ r) (h : ∀ p ∈ [p0, p1, p2, p3, p4, p5], 1 ≤ p ∧ p ≤ 4) : EndOk (symL r) (msL p0 p1 p2 p3 p4 p5) where
  ok := fun i p hp => by
    simp only [List.forall_mem_cons, nil_all, and_true] at h
    have go : ∀ q : Int, 1 ≤ q → q ≤ 4 → ∀ j : Nat, j < 6 → ((symL r).getD q.toNat 0 = 0 ↔ j + 1 = (msL p0 p1 p2 p3 p4 p5).length) := fun q h1 h4 j hj => by
      rw [sym_val h1 h4]
      show r + 6 + q = 0 ↔ j + 1 = 7
      omega
    match i, hp with
    | 0, hp => injection hp with e; subst e; exact go _ h.1.1 h.1.2 0 (by decide)
    | 1, hp => injection hp with e; subst e; exact go _ h.2.1.1 h.2.1.2 1 (by decide)
    | 2, hp => injection hp with e; subst e; exact go _ h.2.2.1.1 h.2.2.1.2 2 (by decide)
    | 3, hp => injection hp with e; subst e; exact go _ h.2.2.2.1.1 h.2.2.2.1.2 3 (by decide)
    | 4, hp => injection hp with e; subst e; exact go _ h.2.2.2.2.1.1 h.2.2.2.2.1.2 4 (by decide)
    | 5, hp => injection hp with e; subst e; exact go _ h.2.2.2.2.2.1 h.2.2.2.2.2.2 5 (by decide)
    | 6, hp => injection hp with e; subst e; exact ⟨fun _ => rfl, fun _ => rfl⟩
    | k + 7, hp => exact nomatch hp
theorem told_all {r p0 p1 p2 p3 p4 p5 : Int} (h : ∀ p ∈ [p0, p1, p2, p3, p4, p5], 1 ≤ p ∧ p ≤ 4) : tolds (symL r) (msL p0 p1 p2 p3 p4 p5) (msL p0 p1 p2 p3 p4 p5).length = [r + 6 + p0, r + 6 + p1, r + 6 + p2, r + 6 + p3, r + 6 + p4, r + 6 + p5] ++ [0] := by
  simp only [List.forall_mem_cons, nil_all, and_true] at h
  show [(symL r).getD p0.toNat 0, (symL r).getD p1.toNat 0, (symL r).getD p2.toNat 0, (symL r).getD p3.toNat 0, (symL r).getD p4.toNat 0, (symL r).getD p5.toNat 0, 0] = _
  rw [sym_val h.1.1 h.1.2, sym_val h.2.1.1 h.2.1.2, sym_val h.2.2.1.1 h.2.2.1.2, sym_val h.2.2.2.1.1 h.2.2.2.1.2, sym_val h.2.2.2.2.1.1 h.2.2.2.2.1.2, sym_val h.2.2.2.2.2.1 h.2.2.2.2.2.2]
  rfl
theorem VecP.pos {ls os sts : List Int} (V : VecP ls os sts) : ∀ x ∈ ls, 0 ≤ x ∧ x ≤ 1000 := fun x hx => by
  have := V.sml x hx
  omega
/-- the message's places have tokens of their own, older than the order's -/
theorem msg_tokx {mv ov : List Value} {os : List Int} {T : Nat} (hm : ∀ p t, Value.int p t ∈ mv → @LE.le Nat _ 1 t ∧ @LT.lt Nat _ t T) (ho : ∀ p t, Value.int p t ∈ ov → T ≤ t) (io : IntsAre ov os) (ro : ∀ o ∈ os, 0 ≤ o ∧ o < 5) : ∀ p t, Value.int p t ∈ mv → TokX ov p t := fun p t h => by
  have h1 := hm p t h
  have h1a : @LE.le Nat _ 1 t := h1.1
  have h1b : @LT.lt Nat _ t T := h1.2
  refine ⟨(by show ¬ @Eq Nat t 0; omega), fun b u hb => ?_⟩
  have h2 : @LE.le Nat _ T u := ho b u hb
  have h3 := ro b (ints_val io hb)
  exact ⟨(by show ¬ @Eq Nat u 0; omega), fun e => absurd (show @Eq Nat u t from e) (by omega), by omega, by omega⟩
theorem msg_toks {T p0t p1t p2t p3t p4t p5t p6t : Nat} {p0 p1 p2 p3 p4 p5 : Int} (h : ∀ t ∈ [p0t, p1t, p2t, p3t, p4t, p5t, p6t], 1 ≤ t ∧ t < T) : ∀ p t, Value.int p t ∈ [Value.int p0 p0t, .int p1 p1t, .int p2 p2t, .int p3 p3t, .int p4 p4t, .int p5 p5t, .int 0 p6t] → @LE.le Nat _ 1 t ∧ @LT.lt Nat _ t T := fun p t hm => by
  simp only [List.mem_cons, List.not_mem_nil, or_false, Value.int.injEq] at hm
  rcases hm with ⟨_, rfl⟩ | ⟨_, rfl⟩ | ⟨_, rfl⟩ | ⟨_, rfl⟩ | ⟨_, rfl⟩ | ⟨_, rfl⟩ | ⟨_, rfl⟩
  all_goals exact h _ (by simp)
theorem same_turn {m₀ z : Str → Option Value} {v1 v2 v3 v4 v5 : Option Value} : Same turnS m₀ (fun y => if y = "size" then v1 else if y = "number" then v2 else if y = "starts" then v3 else if y = "order" then v4 else if y = "behind" then v5 else if turnS.contains y then z y else m₀ y) := fun y hy => by
  simp only [List.contains_cons, List.contains_nil, Bool.or_false, Bool.or_eq_false_iff, beq_eq_false_iff_ne] at hy
  have e : turnS.contains y = false := by simp [hy]
  dsimp only
  rw [if_neg hy.2.2.2.2, if_neg hy.2.2.2.1, if_neg hy.2.2.1, if_neg hy.2.1, if_neg hy.1, e]
  rfl
section
variable {prog : Program} {w : World} {A : Around} {E : Value → Shared → Prop} {s : Shared}
theorem ne_tup2 {h₀ : Heap} {L a b : Addr} {news : List (Addr × Obj)} {x y : Int} {t u t' u' : Tok} {c c' : Nat} {Q : Value → Shared → Prop} (N : News h₀ L s.heap news) (ha : (a, ({ cls := .type "tuple", data := .seq #[.int x t, .int y u] c } : Obj)) ∈ news) (hb : (b, ({ cls := .type "tuple", data := .seq #[.int x t', .int y u'] c' } : Obj)) ∈ news) (hu : A.units + 64 < cLine) (h : Q (.bool false) s) :
    wpAny (model prog w) A (compareOp .NotEq (.ref a) (.ref b)) Q E s := by
  refine ne_dataH (da := .tuple [.int x, .int y]) (db := .tuple [.int x, .int y]) (reads_tuple_at (N _ ha).1 rfl rfl (.cons (.int x t) (.cons (.int y u) .nil))) (reads_tuple_at (N _ hb).1 rfl rfl (.cons (.int x t') (.cons (.int y u') .nil))) rfl rfl hu ?_
  have e : PyData.eqv (.tuple [.int x, .int y]) (.tuple [.int x, .int y]) = true := by simp [PyData.eqv, PyData.eqvAll]
  rw [e]
  exact h
end
theorem c_writtenV {prog : Program} {w : World} {loose : List Str} {mean : ExcName → Option Value} {mg mb : Str → Option Value}
    {dp un : Nat} {gd : Option (List Code)} {cn : Str} {cs : Scope} {a : Addr} {ccd : Value} {cl : List (Str × Addr)} {outer : List Env} {A₀ : Around} {base h₀ : Heap} {L : Addr} {m : Str → Option Value} {s : Shared} {Q E : Value → Shared → Prop} {news : List (Addr × Obj)}
    {ml l ol sl : Addr} {nm n no k : Nat} {mv us ov sv : List Value} {ms ls os sts : List Int} {num siz : Int} (V : VecP ls os sts) (hw : WrOk ls os sts ms num siz)
    (B : Below A₀ base outer h₀) (F : Fr h₀ L s.heap m) (X : (hd.heap_39 w.params).In h₀) (N : News h₀ L s.heap news) (T : Top topProg loose mean mg mb h₀) (hk : cs.kind = .function)
    (hdp : dp + 10 < recursionLimit) (hun : un + 300 < cLine) (hml : (ml, listOf mv.toArray nm) ∈ news) (him : IntsAre mv ms) (hm15 : ms.length < 16) (hmr : ∀ p ∈ ms, 0 ≤ p ∧ p < 5)
    (hl : (l, listOf us.toArray n) ∈ news) (hi : IntsAre us ls) (h5 : ls.length = 5) (hol : (ol, listOf ov.toArray no) ∈ news) (hio : IntsAre ov os) (hsl : (sl, listOf sv.toArray k) ∈ news) (his : IntsAre sv sts)
    (htx : ∀ p t, Value.int p t ∈ mv → TokX ov p t)
    (hret : ∀ r tn ts h' tk', Fr h₀ L h' m → News h₀ L h' ((r, { cls := .type "tuple", data := .seq #[.int num tn, .int siz ts] }) :: news) → (∀ p ∈ news, p.1 < r) → Q (.ref r) { s with heap := h', toks := tk' }) :
    wpAny (model prog w) (ktrTop dp un gd cn cs L a ccd cl outer) (call (.ref 196) [.ref ml, .ref l, .ref ol, .ref sl]) Q E s := by
  refine c_written B F X N T hk hdp hun hml him hm15 hmr hl hi h5 hol hio hsl his V.s5 V.pos (V.idx hmr) htx V.word fun r tn ts h' tk' F' N' lt => ?_
  rw [hw.wr] at N'
  exact hret r tn ts h' tk' F' N' lt
theorem c_dueV {prog : Program} {w : World} {loose : List Str} {mean : ExcName → Option Value} {mg mb : Str → Option Value}
    {dp un : Nat} {gd : Option (List Code)} {cn : Str} {cs : Scope} {a : Addr} {ccd : Value} {cl : List (Str × Addr)} {outer : List Env} {A₀ : Around} {base h₀ : Heap} {L : Addr} {m : Str → Option Value} {s : Shared} {Q E : Value → Shared → Prop} {news : List (Addr × Obj)}
    {ml l : Addr} {nm n : Nat} {us : List Value} {mv : List Value} {ls os sts ms : List Int} {num siz : Int} (V : VecP ls os sts) (hw : WrOk ls os sts ms num siz)
    (B : Below A₀ base outer h₀) (F : Fr h₀ L s.heap m) (X : (hd.heap_39 w.params).In h₀) (N : News h₀ L s.heap news) (T : Top topProg loose mean mg mb h₀) (hk : cs.kind = .function)
    (hdp : dp + 10 < recursionLimit) (hun : un + 300 < cLine) (hml : (ml, listOf mv.toArray nm) ∈ news) (him : IntsAre mv ms) (hm15 : ms.length < 16) (hmr : ∀ p ∈ ms, 0 ≤ p ∧ p < 5)
    (hl : (l, listOf us.toArray n) ∈ news) (hi : IntsAre us ls) (h5 : ls.length = 5)
    (hret : ∀ r tn ts h' tk', Fr h₀ L h' m → News h₀ L h' ((r, { cls := .type "tuple", data := .seq #[.int num tn, .int siz ts] }) :: news) → (∀ p ∈ news, p.1 < r) → Q (.ref r) { s with heap := h', toks := tk' }) :
    wpAny (model prog w) (ktrTop dp un gd cn cs L a ccd cl outer) (call (.ref 201) [.ref ml, .ref l]) Q E s := by
  refine c_due B F X N T hk hdp hun hml him hm15 hmr hl hi h5 V.sort V.due V.word fun r tn ts h' tk' F' N' lt => ?_
  rw [hw.wr] at N'
  exact hret r tn ts h' tk' F' N' lt
theorem c_readV {prog : Program} {w : World} {loose : List Str} {mean : ExcName → Option Value} {mg mb : Str → Option Value}
    {dp un : Nat} {gd : Option (List Code)} {cn : Str} {cs : Scope} {a : Addr} {ccd : Value} {cl : List (Str × Addr)} {outer : List Env} {A₀ : Around} {base h₀ : Heap} {L : Addr} {m : Str → Option Value} {s : Shared} {Q E : Value → Shared → Prop} {news : List (Addr × Obj)}
    {l ol sl yl : Addr} {n no k ky : Nat} {us ov sv yv : List Value} {ls os sts : List Int} {r p0 p1 p2 p3 p4 p5 num siz : Int} {tn ts : Tok} (V : VecP ls os sts) (hw : WrOk ls os sts (msL p0 p1 p2 p3 p4 p5) num siz) (r0 : 0 ≤ r) (hps : ∀ p ∈ [p0, p1, p2, p3, p4, p5], 1 ≤ p ∧ p ≤ 4)
    (B : Below A₀ base outer h₀) (F : Fr h₀ L s.heap m) (X : (hd.heap_39 w.params).In h₀) (N : News h₀ L s.heap news) (T : Top topProg loose mean mg mb h₀) (hk : cs.kind = .function)
    (hdp : dp + 10 < recursionLimit) (hun : un + 300 < cLine) (hl : (l, listOf us.toArray n) ∈ news) (hi : IntsAre us ls) (h5 : ls.length = 5) (hol : (ol, listOf ov.toArray no) ∈ news) (hio : IntsAre ov os) (hsl : (sl, listOf sv.toArray k) ∈ news) (his : IntsAre sv sts)
    (hyl : (yl, listOf yv.toArray ky) ∈ news) (hiy : IntsAre yv (symL r))
    (hret : ∀ R tv kt h' tk', Fr h₀ L h' m → News h₀ L h' ((R, listOf (List.toArray tv) kt) :: news) → (∀ p ∈ news, p.1 < R) → IntsAre tv ([r + 6 + p0, r + 6 + p1, r + 6 + p2, r + 6 + p3, r + 6 + p4, r + 6 + p5] ++ [0]) → Q (.ref R) { s with heap := h', toks := tk' }) :
    wpAny (model prog w) (ktrTop dp un gd cn cs L a ccd cl outer) (call (.ref 208) [.int num tn, .int siz ts, .ref l, .ref ol, .ref sl, .ref yl]) Q E s := by
  have hR := V.read (ms_rng hps)
  rw [hw.wr] at hR
  have e := hw.sz
  have hs := hw.small
  subst e
  refine c_read (sz := fun i => (szs ls ((msL p0 p1 p2 p3 p4 p5).drop i) : Int)) B F X N T hk hdp hun hl hi h5 hol hio V.l5 hsl his V.s5 hyl hiy rfl V.pos hs V.mx0.1 (Int.le_trans V.mx0.2 (by decide)) (by show 0 < 7; decide) (by show 7 < 100; decide) hR (end_ok r0 hps) fun R tv kt h' tk' F' N' lt it => ?_
  rw [told_all hps] at it
  exact hret R tv kt h' tk' F' N' lt it

end
section
theorem words_lawV : True := by
  k_with_none
  (k_with "CJ" => (with_reducible first | assumption | exact cj0 ‹_› | exact cj1 ‹_› | exact cl1 ‹_› | exact cj2 ‹_› | exact cl2 ‹_› | exact cj3 ‹_› | exact cl3 ‹_› | exact cj4 ‹_› | exact cl4 ‹_› | exact cj5 ‹_› | exact cl5 ‹_› | exact cj6 ‹_› | exact cl6 ‹_› | exact cj7 ‹_› | exact cl7 ‹_› | exact cj8 ‹_› | exact cl8 ‹_› | exact cj9 ‹_› | exact cl9 ‹_› | exact cj10 ‹_› | exact cl10 ‹_› | exact cj11 ‹_› | exact cl11 ‹_› | exact cj12 ‹_› | exact cl12 ‹_›))
  (k_with "k_ne" => (((refine neN ?_); (try dsimp only); first | exact Nat.ne_of_gt (by k_extra "CJ") | exact Nat.ne_of_lt (by k_extra "CJ") | k_extra "CJ" | exact Ne.symm (by k_extra "CJ"))))
  (k_with "ktr_room" => (first | exact rm0 ‹_› | exact rm1 ‹_› rfl | exact rm2 ‹_› rfl | exact rm3 ‹_› rfl))
  (k_with "ktr_units" => (first | exact rm0 ‹_› | exact rm1 ‹_› rfl | exact rm2 ‹_› rfl | exact rm3 ‹_› rfl))
  (k_with "k_mem" => (first | exact List.Mem.head _ | (refine' List.Mem.tail _ ?_; k_mem) | (show (_ : Addr × Obj) ∈ (_ : List (Addr × Obj)); with_reducible assumption)))
  (k_with "callWith ref" => ((k_here; k_dflt (first | (refine' callWith_K ?zzk1 ?zzk2 ?_; (case zzk1 => k_asm); (case zzk2 => k_is); k_whole) | (refine' callWith_KW ?zzk1 ?zzk2 ?zzk3 ?_; (case zzk1 => k_asm); (case zzk2 => k_is); (case zzk3 => exact rfl); k_whole)))))
  (k_with "call builtin:len" => ((k_here; (with_reducible show wpAny _ _ (call (Value.builtin "len") [Value.ref _]) _ _ _); k_dflt (refine' my_len ?zzk1 ?zzk2 ?zzk3 ?_; (case zzk1 => k_asm); (case zzk2 => k_mem); (case zzk3 => first | assumption | omega); k_whole))))
  (k_with "callWith ref" => ((k_here; k_dflt (refine' callWith_Fn1 ?zzkf ?_; (case zzkf => with_reducible assumption); k_whole))))
  (k_with "And" => (((with_reducible show IsFn _ _ ∧ _); refine ⟨KeyFn.get (by with_reducible assumption) (by k_in) (by k_asm), ?_⟩; try dsimp only [List.nil_append, List.cons_append])))
  (k_with "CompEnd" => ((k_dflt (refine' compEnd_same ?zzF ?zzN ?zzoff ?zzsrc ?_; (case zzF => k_asm); (case zzN => k_asm); (case zzoff => first | assumption | ((simp only [LCg.Off3, and_true]); first | done | assumption)); (case zzsrc => lcg_src)))))
  (k_with "k_all" => (first | (with_reducible assumption) | exact List.forall_mem_nil _ | (refine' List.forall_mem_cons.mpr ⟨?zzka, ?zzkb⟩; (case zzka => k_ne); (case zzkb => k_all))))
  (k_with "CompSrc" => ((k_here; k_dflt (refine KeepSrc.out ?_))))
  (k_with "binaryOp Pow int int" => ((k_here; (with_reducible refine pow_int_small ?zzkb1 ?zzkb2 ?zzkb3 ?_); (case zzkb1 => omega); (case zzkb2 => omega); (case zzkb3 => decide))))
  (k_with "binaryOp FloorDiv int int" => ((k_here; (with_reducible refine floordiv_int ?zzkb1 ?_ (Or.inl (PyProof.noPylong_small ?zzkb2))); (case zzkb1 => exact pow4_ne _); (case zzkb2 => exact pow4_small (by assumption)))))
  (k_with "eval ListComp" => ((k_here; k_dflt (first
  | ((with_reducible show wpAny _ _ (eval (PySem.Expr.ListComp (PySem.Expr.BinOp _ _ (PySem.Expr.Constant _ _ _) _) _ _ _) _) _ _ _); (rename Fr _ _ _ _ => lFt); (refine ListComp_tok (h₀ := ghostIs lFt) (L := frameIs lFt) (m := localsIs lFt) (by with_unfolding_all rfl) (by decide) (by rfl) (by decide) (by rfl) ?_); (try dsimp only [ghostIs, frameIs, localsIs]))
  | ((with_reducible show wpAny _ _ (eval (PySem.Expr.ListComp _ [⟨PySem.Expr.Name _ _, _, _, _⟩] _ _) _) _ _ _); refine LCg.ListComp_U (F₀ := by k_asm) (by with_unfolding_all rfl) (by decide) (by rfl) (by decide) (by rfl) ?_)))))
  (k_with "execs cons" => (((with_reducible refine execs_grow ?_); try dsimp only)))
  (k_with "Grown" => ((refine Grown.intro fun hg9 => ?_; (try dsimp only at hg9))))
  exact True.intro
theorem words_lawV_1 : True := by
  (k_with "SUBL" => ((intros p9 h9; (repeat (first | exact h9 | refine List.Mem.tail _ ?_)))))
  exact True.intro
theorem law_v {prog : Program} {w : World} {loose : List Str} {mean : ExcName → Option Value} {mg mb : Str → Option Value} {g : Heap} {L : Nat} {f₀ : Addr} {cd : Value} {scope : Scope} {t0 t1 t2 t3 t4 t5 t6 t7 t8 t9 : Stmt} {s : Shared} {l : Addr} {z : Str → Option Value} {Q : Flow → Shared → Prop} {E : Value → Shared → Prop}
    {b : Bool} {Z : List (Addr × Obj)} {I MS SY NB fa za LN OL : Addr} {oI o3 o5 : Obj} {c0 c1 cn no nb : Nat} {ps ps2 : Array Value} {lv ov av : List Value} {ls : List Int} {o0 o1 o2 o3' o4 : Int} {sts : List Int} {M : Int} {Mt : Tok} {r : Int} {st0 st1 st2 st3 st4 : Tok} {p0 p1 p2 p3 p4 p5 : Int} {pt0 pt1 pt2 pt3 pt4 pt5 pt6 TT : Nat}
    (hS : fnScope w.params 213 = some scope) (hBd : lawTurn w.params = t0 :: t1 :: t2 :: t3 :: t4 :: t5 :: t6 :: t7 :: t8 :: t9 :: [])
    (B : Below callerA g [] g) (X : (hd.heap_39 w.params).In g) (T : Top topProg loose mean mg mb g) (F : Fr g L s.heap (fun y => if y = "order" then some (.ref OL) else if y = "behind" then some (.bool b) else if turnS.contains y then z y else if y = "numbers" then some (.ref NB) else if y = "message" then some (.ref MS) else if y = "steepest" then some (.ref za) else if y = "flattest" then some (.ref fa) else if y = "least" then some (.int M Mt) else if y = "script" then some (.ref l) else none))
    (N : News g L s.heap ((I, oI) :: ((L + 1 + 1 + 1 + 1 + 1 : Nat), o5) :: (177, tabObj ps2) :: (172, tabObj ps) :: Z)) (d5 : o5.data = .cell (some (.ref LN)))
    (hM : (MS, listOf (List.toArray [Value.int p0 pt0, .int p1 pt1, .int p2 pt2, .int p3 pt3, .int p4 pt4, .int p5 pt5, .int 0 pt6]) c0) ∈ Z) (hSY : (SY, listOf (List.toArray [.int 0 st0, .int (r + 7) st1, .int (r + 8) st2, .int (r + 9) st3, .int (r + 10) st4]) c1) ∈ Z) (hc3 : ((L + 1 + 1 + 1 : Nat), o3) ∈ Z) (d3 : o3.data = .cell (some (.ref SY))) (hNB : (NB, listOf (List.toArray av) nb) ∈ Z) (iav : IntsAre av [r + 6 + p0, r + 6 + p1, r + 6 + p2, r + 6 + p3, r + 6 + p4, r + 6 + p5])
    (hLN : (LN, listOf (List.toArray lv) cn) ∈ Z) (hi : IntsAre lv ls) (h5 : ls.length = 5) (hOL : (OL, listOf (List.toArray ov) no) ∈ Z) (io : IntsAre ov [o0, o1, o2, o3', o4]) (to : ∀ a t, Value.int a t ∈ ov → TT ≤ t)
    (r0 : 0 ≤ r) (hps : Sealed (∀ p ∈ [p0, p1, p2, p3, p4, p5], 1 ≤ p ∧ p ≤ 4)) (hpt : Sealed (∀ t ∈ [pt0, pt1, pt2, pt3, pt4, pt5, pt6], 1 ≤ t ∧ t < TT)) (hV : Sealed (VecP ls [o0, o1, o2, o3', o4] sts)) (hst : Sealed (stGo ls [o0, o1, o2, o3', o4] 4 = sts))
    (hPE : PassesOwn (model prog w) (callerA.deeper (envOfC "law" scope L f₀ cd)) (envOfC "law" scope L f₀ cd) E)
    (hret : ∀ (h' : Heap) (tk' : Nat) (m' : Str → Option Value), Same turnS (fun y => if y = "numbers" then some (.ref NB) else if y = "message" then some (.ref MS) else if y = "steepest" then some (.ref za) else if y = "flattest" then some (.ref fa) else if y = "least" then some (.int M Mt) else if y = "script" then some (.ref l) else none) m' → Fr g L h' m' → News g L h' ((I, oI) :: ((L + 1 + 1 + 1 + 1 + 1 : Nat), o5) :: (177, tabObj ps2) :: (172, tabObj ps) :: Z) → s.toks ≤ tk' → Q .next { s with heap := h', toks := tk' }) :
    wpAny (model prog w) (callerA.deeper (envOfC "law" scope L f₀ cd)) (execs (t6 :: t7 :: t8 :: t9 :: []) (envOfC "law" scope L f₀ cd)) Q E s := by
  injection (show some _ = some scope from hS) with e0
  subst e0
  injection (show _ :: _ = t0 :: t1 :: t2 :: t3 :: t4 :: t5 :: t6 :: t7 :: t8 :: t9 :: [] from hBd) with e0 e1
  injection e1 with e1 e2
  injection e2 with e2 e3
  injection e3 with e3 e4
  injection e4 with e4 e5
  injection e5 with e5 e6
  injection e6 with e6 e7
  injection e7 with e7 e8
  injection e8 with e8 e9
  injection e9 with e9 e10
  subst e6 e7 e8 e9
  clear hS hBd e0 e1 e2 e3 e4 e5 e10
  obtain ⟨num, siz, hW⟩ : ∃ num siz, WrOk ls [o0, o1, o2, o3', o4] sts (msL p0 p1 p2 p3 p4 p5) num siz := wr_named hV.eq (ms_rng hps.eq) (show 7 < 16 by decide)
  have hW9 := Sealed.mk hW
  clear hW
  have hx9 := Sealed.mk (msg_tokx (msg_toks (p0 := p0) (p1 := p1) (p2 := p2) (p3 := p3) (p4 := p4) (p5 := p5) hpt.eq) to io hV.eq.rng)
  have l69 : av.length < 1000 := by rw [iav.length]; exact (show 6 < 1000 by decide)
  k_with_none
  (k_with "CJ" => (with_reducible first | assumption | exact cj0 ‹_› | exact cj1 ‹_› | exact cl1 ‹_› | exact cj2 ‹_› | exact cl2 ‹_› | exact cj3 ‹_› | exact cl3 ‹_› | exact cj4 ‹_› | exact cl4 ‹_› | exact cj5 ‹_› | exact cl5 ‹_› | exact cj6 ‹_› | exact cl6 ‹_› | exact cj7 ‹_› | exact cl7 ‹_› | exact cj8 ‹_› | exact cl8 ‹_› | exact cj9 ‹_› | exact cl9 ‹_› | exact cj10 ‹_› | exact cl10 ‹_› | exact cj11 ‹_› | exact cl11 ‹_› | exact cj12 ‹_› | exact cl12 ‹_›))
  (k_with "k_ne" => (((refine neN ?_); (try dsimp only); first | exact Nat.ne_of_gt (by k_extra "CJ") | exact Nat.ne_of_lt (by k_extra "CJ") | k_extra "CJ" | exact Ne.symm (by k_extra "CJ"))))
  (k_with "ktr_room" => (first | exact rm0 ‹_› | exact rm1 ‹_› rfl | exact rm2 ‹_› rfl | exact rm3 ‹_› rfl))
  (k_with "ktr_units" => (first | exact rm0 ‹_› | exact rm1 ‹_› rfl | exact rm2 ‹_› rfl | exact rm3 ‹_› rfl))
  (k_with "k_mem" => (first | exact List.Mem.head _ | (refine' List.Mem.tail _ ?_; k_mem) | (show (_ : Addr × Obj) ∈ (_ : List (Addr × Obj)); with_reducible assumption)))
  (k_with "callWith ref" => ((k_here; k_dflt (first | (refine' callWith_K ?zzk1 ?zzk2 ?_; (case zzk1 => k_asm); (case zzk2 => k_is); k_whole) | (refine' callWith_KW ?zzk1 ?zzk2 ?zzk3 ?_; (case zzk1 => k_asm); (case zzk2 => k_is); (case zzk3 => exact rfl); k_whole)))))
  (k_with "call builtin:len" => ((k_here; (with_reducible show wpAny _ _ (call (Value.builtin "len") [Value.ref _]) _ _ _); k_dflt (refine' my_len ?zzk1 ?zzk2 ?zzk3 ?_; (case zzk1 => k_asm); (case zzk2 => k_mem); (case zzk3 => first | assumption | omega); k_whole))))
  (k_with "callWith ref" => ((k_here; k_dflt (refine' callWith_Fn1 ?zzkf ?_; (case zzkf => with_reducible assumption); k_whole))))
  (k_with "And" => (((with_reducible show IsFn _ _ ∧ _); refine ⟨KeyFn.get (by with_reducible assumption) (by k_in) (by k_asm), ?_⟩; try dsimp only [List.nil_append, List.cons_append])))
  (k_with "CompEnd" => ((k_dflt (refine' compEnd_same ?zzF ?zzN ?zzoff ?zzsrc ?_; (case zzF => k_asm); (case zzN => k_asm); (case zzoff => first | assumption | ((simp only [LCg.Off3, and_true]); first | done | assumption)); (case zzsrc => lcg_src)))))
  (k_with "k_all" => (first | (with_reducible assumption) | exact List.forall_mem_nil _ | (refine' List.forall_mem_cons.mpr ⟨?zzka, ?zzkb⟩; (case zzka => k_ne); (case zzkb => k_all))))
  (k_with "CompSrc" => ((k_here; k_dflt (refine KeepSrc.out ?_))))
  (k_with "binaryOp Pow int int" => ((k_here; (with_reducible refine pow_int_small ?zzkb1 ?zzkb2 ?zzkb3 ?_); (case zzkb1 => omega); (case zzkb2 => omega); (case zzkb3 => decide))))
  (k_with "binaryOp FloorDiv int int" => ((k_here; (with_reducible refine floordiv_int ?zzkb1 ?_ (Or.inl (PyProof.noPylong_small ?zzkb2))); (case zzkb1 => exact pow4_ne _); (case zzkb2 => exact pow4_small (by assumption)))))
  (k_with "eval ListComp" => ((k_here; k_dflt (first
  | ((with_reducible show wpAny _ _ (eval (PySem.Expr.ListComp (PySem.Expr.BinOp _ _ (PySem.Expr.Constant _ _ _) _) _ _ _) _) _ _ _); (rename Fr _ _ _ _ => lFt); (refine ListComp_tok (h₀ := ghostIs lFt) (L := frameIs lFt) (m := localsIs lFt) (by with_unfolding_all rfl) (by decide) (by rfl) (by decide) (by rfl) ?_); (try dsimp only [ghostIs, frameIs, localsIs]))
  | ((with_reducible show wpAny _ _ (eval (PySem.Expr.ListComp _ [⟨PySem.Expr.Name _ _, _, _, _⟩] _ _) _) _ _ _); refine LCg.ListComp_U (F₀ := by k_asm) (by with_unfolding_all rfl) (by decide) (by rfl) (by decide) (by rfl) ?_)))))
  (k_with "execs cons" => (((with_reducible refine execs_grow ?_); try dsimp only)))
  (k_with "Grown" => ((refine Grown.intro fun hg9 => ?_; (try dsimp only at hg9))))
  (k_with "SUBL" => ((intros p9 h9; (repeat (first | exact h9 | refine List.Mem.tail _ ?_)))))
  (k_with "call ref" => (first
    | ((with_reducible show wpAny _ _ (call (Value.ref 189) _) _ _ _); k_dflt (refine' c_starts (ls := ls) (os := [o0, o1, o2, o3', o4]) ?a1 ?a2 ?a3 ?a4 ?a5 ?aK ?ad ?au ?al hi h5 ?ao io hV.eq.l5 hV.eq.rng hV.eq.pos ?_; (case a1 => k_asm); (case a2 => k_asm); (case a3 => k_asm); (case a4 => k_asm); (case a5 => k_asm); (case aK => exact rfl); (case ad => ktr_room); (case au => ktr_units); (case al => k_mem); (case ao => k_mem); k_whole); intro SL sv k6 h6 tk6 F6 N6 l6 is6; k_dflt (rw [hst.eq] at is6); (try k_lt l6); (try dsimp only); (try k_fold))
    | ((with_reducible show wpAny _ _ (call (Value.ref 196) _) _ _ _); k_dflt (refine' c_writtenV (ms := msL p0 p1 p2 p3 p4 p5) (ls := ls) (os := [o0, o1, o2, o3', o4]) (sts := sts) hV.eq hW9.eq ?b1 ?b2 ?b3 ?b4 ?b5 ?bK ?bd ?bu ?bm (.cons _ _ (.cons _ _ (.cons _ _ (.cons _ _ (.cons _ _ (.cons _ _ (.cons _ _ .nil))))))) ?b15 (ms_rng hps.eq) ?bl hi h5 ?bo io ?bs is6 hx9.eq ?_; (case b1 => k_asm); (case b2 => k_asm); (case b3 => k_asm); (case b4 => k_asm); (case b5 => k_asm); (case bK => exact rfl); (case bd => ktr_room); (case bu => ktr_units); (case bm => k_mem); (case b15 => exact (show 7 < 16 by decide)); (case bl => k_mem); (case bo => k_mem); (case bs => k_mem); k_whole); intro R7 tn7 ts7 h7 tk7 F7 N7 l7; (try k_lt l7); (try dsimp only); (try k_fold))
    | ((with_reducible show wpAny _ _ (call (Value.ref 201) _) _ _ _); k_dflt (refine' c_dueV (ms := msL p0 p1 p2 p3 p4 p5) (ls := ls) (os := [o0, o1, o2, o3', o4]) (sts := sts) hV.eq hW9.eq ?c1 ?c2 ?c3 ?c4 ?c5 ?cK ?cd ?cu ?cm (.cons _ _ (.cons _ _ (.cons _ _ (.cons _ _ (.cons _ _ (.cons _ _ (.cons _ _ .nil))))))) ?c15 (ms_rng hps.eq) ?cl hi h5 ?_; (case c1 => k_asm); (case c2 => k_asm); (case c3 => k_asm); (case c4 => k_asm); (case c5 => k_asm); (case cK => exact rfl); (case cd => ktr_room); (case cu => ktr_units); (case cm => k_mem); (case c15 => exact (show 7 < 16 by decide)); (case cl => k_mem); k_whole); intro R8 tn8 ts8 h8 tk8 F8 N8 l8; (try k_lt l8); (try dsimp only); (try k_fold))
    | ((with_reducible show wpAny _ _ (call (Value.ref 208) _) _ _ _); k_dflt (refine' c_readV (ls := ls) (os := [o0, o1, o2, o3', o4]) (sts := sts) (r := r) hV.eq hW9.eq r0 hps.eq ?g1 ?g2 ?g3 ?g4 ?g5 ?gK ?gd ?gu ?gl hi h5 ?go io ?gs is6 ?gy (.cons _ _ (.cons _ _ (.cons _ _ (.cons _ _ (.cons _ _ .nil))))) ?_; (case g1 => k_asm); (case g2 => k_asm); (case g3 => k_asm); (case g4 => k_asm); (case g5 => k_asm); (case gK => exact rfl); (case gd => ktr_room); (case gu => ktr_units); (case gl => k_mem); (case go => k_mem); (case gs => k_mem); (case gy => k_mem); k_whole); intro R9 tv9 kt9 h9 tk9 F9 N9 l9 it9; (try k_lt l9); (try dsimp only); (try k_fold))))
  (k_with "compareOp NotEq ref ref" => (first
    | (k_dflt (refine' ne_two ?oa ?ob ?oc it9 ?od ?oe ?_; (case oa => k_asm); (case ob => k_mem); (case oc => k_mem); (case od => exact iav.append (.cons _ _ .nil)); (case oe => ktr_units)))
    | (k_dflt (refine' ne_tup2 ?na ?nb ?nc ?nd ?_; (case na => k_asm); (case nb => k_mem); (case nc => k_mem); (case nd => ktr_units)))))
  (k_with "binaryOp Add ref ref" => (k_dflt (refine' my_add (us := av) ?pF ?pN ?pa ?pb ?pz ?py ?_; (case pF => k_asm); (case pN => k_asm); (case pa => k_mem); (case pb => k_mem); (case pz => exact l69); (case py => exact (show 1 < 1000 by decide)); k_whole); intro D5 h5' F5 N5 l5; (try k_lt l5); (try dsimp only); (try k_fold)))
  k_steps
  · refine hret _ _ _ ?sm F5 (news_sub N5 (List.forall_mem_cons.mpr ⟨by k_mem, List.forall_mem_cons.mpr ⟨by k_mem, List.forall_mem_cons.mpr ⟨by k_mem, List.forall_mem_cons.mpr ⟨by k_mem, by walk_at "SUBL"⟩⟩⟩⟩)) ?le
    case sm => exact same_turn
    exact Nat.le_trans (show s.toks ≤ tk6 + 1 by assumption) (Nat.le_trans (show tk6 + 1 ≤ tk7 + 1 + 1 by assumption) (Nat.le_trans (show tk7 + 1 + 1 ≤ tk8 by assumption) (by assumption)))

end
section
theorem words_lawW0 : True := by
  k_with_none
  (k_with "CJ" => (with_reducible first | assumption | exact cj0 ‹_› | exact cj1 ‹_› | exact cl1 ‹_› | exact cj2 ‹_› | exact cl2 ‹_› | exact cj3 ‹_› | exact cl3 ‹_› | exact cj4 ‹_› | exact cl4 ‹_› | exact cj5 ‹_› | exact cl5 ‹_› | exact cj6 ‹_› | exact cl6 ‹_› | exact cj7 ‹_› | exact cl7 ‹_› | exact cj8 ‹_› | exact cl8 ‹_› | exact cj9 ‹_› | exact cl9 ‹_› | exact cj10 ‹_› | exact cl10 ‹_› | exact cj11 ‹_› | exact cl11 ‹_› | exact cj12 ‹_› | exact cl12 ‹_›))
  (k_with "k_ne" => (((refine neN ?_); (try dsimp only); first | exact Nat.ne_of_gt (by k_extra "CJ") | exact Nat.ne_of_lt (by k_extra "CJ") | k_extra "CJ" | exact Ne.symm (by k_extra "CJ"))))
  (k_with "ktr_room" => (first | exact rm0 ‹_› | exact rm1 ‹_› rfl | exact rm2 ‹_› rfl | exact rm3 ‹_› rfl))
  (k_with "ktr_units" => (first | exact rm0 ‹_› | exact rm1 ‹_› rfl | exact rm2 ‹_› rfl | exact rm3 ‹_› rfl))
  (k_with "k_mem" => (first | exact List.Mem.head _ | (refine' List.Mem.tail _ ?_; k_mem) | (show (_ : Addr × Obj) ∈ (_ : List (Addr × Obj)); with_reducible assumption)))
  (k_with "callWith ref" => ((k_here; k_dflt (first | (refine' callWith_K ?zzk1 ?zzk2 ?_; (case zzk1 => k_asm); (case zzk2 => k_is); k_whole) | (refine' callWith_KW ?zzk1 ?zzk2 ?zzk3 ?_; (case zzk1 => k_asm); (case zzk2 => k_is); (case zzk3 => exact rfl); k_whole)))))
  (k_with "call builtin:len" => ((k_here; (with_reducible show wpAny _ _ (call (Value.builtin "len") [Value.ref _]) _ _ _); k_dflt (refine' my_len ?zzk1 ?zzk2 ?zzk3 ?_; (case zzk1 => k_asm); (case zzk2 => k_mem); (case zzk3 => first | assumption | omega); k_whole))))
  (k_with "callWith ref" => ((k_here; k_dflt (refine' callWith_Fn1 ?zzkf ?_; (case zzkf => with_reducible assumption); k_whole))))
  (k_with "And" => (((with_reducible show IsFn _ _ ∧ _); refine ⟨KeyFn.get (by with_reducible assumption) (by k_in) (by k_asm), ?_⟩; try dsimp only [List.nil_append, List.cons_append])))
  (k_with "CompEnd" => ((k_dflt (refine' compEnd_same ?zzF ?zzN ?zzoff ?zzsrc ?_; (case zzF => k_asm); (case zzN => k_asm); (case zzoff => first | assumption | ((simp only [LCg.Off3, and_true]); first | done | assumption)); (case zzsrc => lcg_src)))))
  (k_with "k_all" => (first | (with_reducible assumption) | exact List.forall_mem_nil _ | (refine' List.forall_mem_cons.mpr ⟨?zzka, ?zzkb⟩; (case zzka => k_ne); (case zzkb => k_all))))
  (k_with "CompSrc" => ((k_here; k_dflt (refine KeepSrc.out ?_))))
  (k_with "binaryOp Pow int int" => ((k_here; (with_reducible refine pow_int_small ?zzkb1 ?zzkb2 ?zzkb3 ?_); (case zzkb1 => omega); (case zzkb2 => omega); (case zzkb3 => decide))))
  (k_with "binaryOp FloorDiv int int" => ((k_here; (with_reducible refine floordiv_int ?zzkb1 ?_ (Or.inl (PyProof.noPylong_small ?zzkb2))); (case zzkb1 => exact pow4_ne _); (case zzkb2 => exact pow4_small (by assumption)))))
  (k_with "eval ListComp" => ((k_here; k_dflt (first
  | ((with_reducible show wpAny _ _ (eval (PySem.Expr.ListComp (PySem.Expr.BinOp _ _ (PySem.Expr.Constant _ _ _) _) _ _ _) _) _ _ _); (rename Fr _ _ _ _ => lFt); (refine ListComp_tok (h₀ := ghostIs lFt) (L := frameIs lFt) (m := localsIs lFt) (by with_unfolding_all rfl) (by decide) (by rfl) (by decide) (by rfl) ?_); (try dsimp only [ghostIs, frameIs, localsIs]))
  | ((with_reducible show wpAny _ _ (eval (PySem.Expr.ListComp _ [⟨PySem.Expr.Name _ _, _, _, _⟩] _ _) _) _ _ _); refine LCg.ListComp_U (F₀ := by k_asm) (by with_unfolding_all rfl) (by decide) (by rfl) (by decide) (by rfl) ?_)))))
  (k_with "execs cons" => (((with_reducible refine execs_grow ?_); try dsimp only)))
  (k_with "Grown" => ((refine Grown.intro fun hg9 => ?_; (try dsimp only at hg9))))
  exact True.intro
theorem cost_map (A B : List Int) : ((List.range 5).map fun i : Nat => A.getD ((0 : Int) + (i : Int)).toNat 0 * B.getD ((0 : Int) + (i : Int)).toNat 0) = ([0, 1, 2, 3, 4] : List Int).map fun k => A.getD k.toNat 0 * B.getD k.toNat 0 := rfl
theorem cost_of {A B : List Int} {M : Int} {f z : Nat} {b : Bool} (h5 : B.length = 5) (hh : (([0, 1, 2, 3, 4] : List Int).map fun k => A.getD k.toNat 0 * B.getD k.toNat 0).sum = M ∧ B.Perm (kd (if b then f else z))) : CostOk A B M f z b :=
  have V := vec_of h5 hh.2
  ⟨h5, V.sml, (congrArg List.sum (cost_map A B)).trans hh.1, hh.2⟩
theorem cost_ok {fv zv : List Value} {f z : Nat} {M w0 w1 w2 w3 w4 r p0 p1 p2 p3 p4 p5 : Int} {pt0 pt1 pt2 pt3 pt4 pt5 pt6 tk : Nat} (h : PreOk fv zv f z M w0 w1 w2 w3 w4 r p0 p1 p2 p3 p4 p5 pt0 pt1 pt2 pt3 pt4 pt5 pt6 tk) (b : Bool) : CostOk [w0, w1, w2, w3, w4] (lens b [w0, w1, w2, w3, w4]) M f z b := by
  obtain ⟨x0, x1, x2, x3, x4, hx, ho, hM, hle, hf, hz⟩ := h.best
  exact cost_of (lens_length _ _) (huff_law (b := b) hx ho hM hle hf hz)
theorem Fr.turn {g h : Heap} {L : Addr} {st : List Str} {m₀ m' : Str → Option Value} (hs : Same st m₀ m') (F : Fr g L h m') : Fr g L h (fun y => if st.contains y then m' y else m₀ y) :=
  hs.eq ▸ F
theorem list5 {os : List Int} (h : os.length = 5) : ∃ o0 o1 o2 o3 o4, os = [o0, o1, o2, o3, o4] := by
  match os, h with
  | [a, b, c, d, e], _ => exact ⟨a, b, c, d, e, rfl⟩
theorem vec_named0 {ls os sts : List Int} (V : VecP ls os sts) (h : ordGo true ls 5 = os) (hs : stGo ls os 4 = sts) : ∃ o0 o1 o2 o3 o4, VecP ls [o0, o1, o2, o3, o4] sts ∧ stGo ls [o0, o1, o2, o3, o4] 4 = sts ∧ ∀ b, OrdOk b ls ∧ ordGo b ls 5 = [o0, o1, o2, o3, o4] := by
  obtain ⟨o0, o1, o2, o3, o4, e⟩ := list5 V.l5
  subst e
  exact ⟨o0, o1, o2, o3, o4, V, hs, fun b => V.ord h b⟩
theorem vec_named {ls : List Int} {k : Nat} (h5 : ls.length = 5) (h : ls.Perm (kd k)) : ∃ sts o0 o1 o2 o3 o4, VecP ls [o0, o1, o2, o3, o4] sts ∧ stGo ls [o0, o1, o2, o3, o4] 4 = sts ∧ ∀ b, OrdOk b ls ∧ ordGo b ls 5 = [o0, o1, o2, o3, o4] :=
  ⟨_, vec_named0 (vec_of h5 h) rfl rfl⟩

end
section
theorem words_lawW : True := by
  k_with_none
  (k_with "CJ" => (with_reducible first | assumption | exact cj0 ‹_› | exact cj1 ‹_› | exact cl1 ‹_› | exact cj2 ‹_› | exact cl2 ‹_› | exact cj3 ‹_› | exact cl3 ‹_› | exact cj4 ‹_› | exact cl4 ‹_› | exact cj5 ‹_› | exact cl5 ‹_› | exact cj6 ‹_› | exact cl6 ‹_› | exact cj7 ‹_› | exact cl7 ‹_› | exact cj8 ‹_› | exact cl8 ‹_› | exact cj9 ‹_› | exact cl9 ‹_› | exact cj10 ‹_› | exact cl10 ‹_› | exact cj11 ‹_› | exact cl11 ‹_› | exact cj12 ‹_› | exact cl12 ‹_›))
  (k_with "k_ne" => (((refine neN ?_); (try dsimp only); first | exact Nat.ne_of_gt (by k_extra "CJ") | exact Nat.ne_of_lt (by k_extra "CJ") | k_extra "CJ" | exact Ne.symm (by k_extra "CJ"))))
  (k_with "ktr_room" => (first | exact rm0 ‹_› | exact rm1 ‹_› rfl | exact rm2 ‹_› rfl | exact rm3 ‹_› rfl))
  (k_with "ktr_units" => (first | exact rm0 ‹_› | exact rm1 ‹_› rfl | exact rm2 ‹_› rfl | exact rm3 ‹_› rfl))
  (k_with "k_mem" => (first | exact List.Mem.head _ | (refine' List.Mem.tail _ ?_; k_mem) | (show (_ : Addr × Obj) ∈ (_ : List (Addr × Obj)); with_reducible assumption)))
  (k_with "callWith ref" => ((k_here; k_dflt (first | (refine' callWith_K ?zzk1 ?zzk2 ?_; (case zzk1 => k_asm); (case zzk2 => k_is); k_whole) | (refine' callWith_KW ?zzk1 ?zzk2 ?zzk3 ?_; (case zzk1 => k_asm); (case zzk2 => k_is); (case zzk3 => exact rfl); k_whole)))))
  (k_with "call builtin:len" => ((k_here; (with_reducible show wpAny _ _ (call (Value.builtin "len") [Value.ref _]) _ _ _); k_dflt (refine' my_len ?zzk1 ?zzk2 ?zzk3 ?_; (case zzk1 => k_asm); (case zzk2 => k_mem); (case zzk3 => first | assumption | omega); k_whole))))
  (k_with "callWith ref" => ((k_here; k_dflt (refine' callWith_Fn1 ?zzkf ?_; (case zzkf => with_reducible assumption); k_whole))))
  (k_with "And" => (((with_reducible show IsFn _ _ ∧ _); refine ⟨KeyFn.get (by with_reducible assumption) (by k_in) (by k_asm), ?_⟩; try dsimp only [List.nil_append, List.cons_append])))
  (k_with "CompEnd" => ((k_dflt (refine' compEnd_same ?zzF ?zzN ?zzoff ?zzsrc ?_; (case zzF => k_asm); (case zzN => k_asm); (case zzoff => first | assumption | ((simp only [LCg.Off3, and_true]); first | done | assumption)); (case zzsrc => lcg_src)))))
  (k_with "k_all" => (first | (with_reducible assumption) | exact List.forall_mem_nil _ | (refine' List.forall_mem_cons.mpr ⟨?zzka, ?zzkb⟩; (case zzka => k_ne); (case zzkb => k_all))))
  (k_with "CompSrc" => ((k_here; k_dflt (refine KeepSrc.out ?_))))
  (k_with "binaryOp Pow int int" => ((k_here; (with_reducible refine pow_int_small ?zzkb1 ?zzkb2 ?zzkb3 ?_); (case zzkb1 => omega); (case zzkb2 => omega); (case zzkb3 => decide))))
  (k_with "binaryOp FloorDiv int int" => ((k_here; (with_reducible refine floordiv_int ?zzkb1 ?_ (Or.inl (PyProof.noPylong_small ?zzkb2))); (case zzkb1 => exact pow4_ne _); (case zzkb2 => exact pow4_small (by assumption)))))
  (k_with "eval ListComp" => ((k_here; k_dflt (first
  | ((with_reducible show wpAny _ _ (eval (PySem.Expr.ListComp (PySem.Expr.BinOp _ _ (PySem.Expr.Constant _ _ _) _) _ _ _) _) _ _ _); (rename Fr _ _ _ _ => lFt); (refine ListComp_tok (h₀ := ghostIs lFt) (L := frameIs lFt) (m := localsIs lFt) (by with_unfolding_all rfl) (by decide) (by rfl) (by decide) (by rfl) ?_); (try dsimp only [ghostIs, frameIs, localsIs]))
  | ((with_reducible show wpAny _ _ (eval (PySem.Expr.ListComp _ [⟨PySem.Expr.Name _ _, _, _, _⟩] _ _) _) _ _ _); refine LCg.ListComp_U (F₀ := by k_asm) (by with_unfolding_all rfl) (by decide) (by rfl) (by decide) (by rfl) ?_)))))
  (k_with "execs cons" => (((with_reducible refine execs_grow ?_); try dsimp only)))
  (k_with "Grown" => ((refine Grown.intro fun hg9 => ?_; (try dsimp only at hg9))))
  exact True.intro
theorem law_uv {prog : Program} {w : World} {loose : List Str} {mean : ExcName → Option Value} {mg mb : Str → Option Value} {g : Heap} {L : Nat} {f₀ : Addr} {cd : Value} {scope : Scope} {t0 t1 t2 t3 t4 t5 t6 t7 t8 t9 : Stmt} {s : Shared} {l : Addr} {Q : Flow → Shared → Prop} {E : Value → Shared → Prop}
    {Z : List (Addr × Obj)} {MS SY NB fa za LN : Addr} {o3 o5 : Obj} {c0 c1 cn nb : Nat} {ps ps2 : Array Value} {av lv : List Value} {ls : List Int} {k : Nat} {M : Int} {Mt : Tok} {r : Int} {st0 st1 st2 st3 st4 : Tok} {p0 p1 p2 p3 p4 p5 : Int} {pt0 pt1 pt2 pt3 pt4 pt5 pt6 TT : Nat}
    {I : Addr} {oI : Obj} {z : Str → Option Value} {b : Bool} (hS : fnScope w.params 213 = some scope) (hBd : lawTurn w.params = t0 :: t1 :: t2 :: t3 :: t4 :: t5 :: t6 :: t7 :: t8 :: t9 :: [])
    (B : Below callerA g [] g) (X : (hd.heap_39 w.params).In g) (T : Top topProg loose mean mg mb g) (F : Fr g L s.heap (fun y => if y = "behind" then some (.bool b) else if turnS.contains y then z y else if y = "numbers" then some (.ref NB) else if y = "message" then some (.ref MS) else if y = "steepest" then some (.ref za) else if y = "flattest" then some (.ref fa) else if y = "least" then some (.int M Mt) else if y = "script" then some (.ref l) else none))
    (N : News g L s.heap ((I, oI) :: ((L + 1 + 1 + 1 + 1 + 1 : Nat), o5) :: (177, tabObj ps2) :: (172, tabObj ps) :: Z)) (aI : ∀ p ∈ Z, @Ne Nat p.1 I) (a5 : ∀ p ∈ Z, @Ne Nat p.1 (L + 1 + 1 + 1 + 1 + 1 : Nat)) (a7 : ∀ p ∈ Z, @Ne Nat p.1 177) (a2 : ∀ p ∈ Z, @Ne Nat p.1 172) (l0 : (177 : Nat) < L ∧ (172 : Nat) < L) (lI : (L + 1 + 1 + 1 + 1 + 1 : Nat) < I)
    (TB1 : TabIn "_law_order.<locals>.<lambda>" ps Z) (TB2 : TabIn "_law_firsts.<locals>.<lambda>" ps2 Z) (d5 : o5.data = .cell (some (.ref LN))) (hC1 : CodeHd g 181 177) (hC2 : CodeHd g 174 172)
    (hM : (MS, listOf (List.toArray [Value.int p0 pt0, .int p1 pt1, .int p2 pt2, .int p3 pt3, .int p4 pt4, .int p5 pt5, .int 0 pt6]) c0) ∈ Z) (hSY : (SY, listOf (List.toArray [.int 0 st0, .int (r + 7) st1, .int (r + 8) st2, .int (r + 9) st3, .int (r + 10) st4]) c1) ∈ Z) (hc3 : ((L + 1 + 1 + 1 : Nat), o3) ∈ Z) (d3 : o3.data = .cell (some (.ref SY))) (hNB : (NB, listOf (List.toArray av) nb) ∈ Z) (iav : IntsAre av [r + 6 + p0, r + 6 + p1, r + 6 + p2, r + 6 + p3, r + 6 + p4, r + 6 + p5])
    (hLN : (LN, listOf (List.toArray lv) cn) ∈ Z) (hi : IntsAre lv ls) (h5 : ls.length = 5) (htl : ∃ k, TokOk k lv) (hk : ls.Perm (kd k))
    (r0 : 0 ≤ r) (hps : Sealed (∀ p ∈ [p0, p1, p2, p3, p4, p5], 1 ≤ p ∧ p ≤ 4)) (hpt : Sealed (∀ t ∈ [pt0, pt1, pt2, pt3, pt4, pt5, pt6], 1 ≤ t ∧ t < TT)) (hT : TT ≤ s.toks)
    (hPE : PassesOwn (model prog w) (callerA.deeper (envOfC "law" scope L f₀ cd)) (envOfC "law" scope L f₀ cd) E)
    (hret : ∀ (h' : Heap) (tk' : Nat) (m' : Str → Option Value) (ps' ps2' : Array Value) (Z' : List (Addr × Obj)), Same turnS (fun y => if y = "numbers" then some (.ref NB) else if y = "message" then some (.ref MS) else if y = "steepest" then some (.ref za) else if y = "flattest" then some (.ref fa) else if y = "least" then some (.int M Mt) else if y = "script" then some (.ref l) else none) m' → Fr g L h' m' → News g L h' ((I, oI) :: ((L + 1 + 1 + 1 + 1 + 1 : Nat), o5) :: (177, tabObj ps2') :: (172, tabObj ps') :: Z') → (∀ p ∈ Z, p ∈ Z') → (∀ p ∈ Z', @Ne Nat p.1 I) → (∀ p ∈ Z', @Ne Nat p.1 (L + 1 + 1 + 1 + 1 + 1 : Nat)) → (∀ p ∈ Z', @Ne Nat p.1 177) → (∀ p ∈ Z', @Ne Nat p.1 172) → TabIn "_law_order.<locals>.<lambda>" ps' Z' → TabIn "_law_firsts.<locals>.<lambda>" ps2' Z' → s.toks ≤ tk' → Q .next { s with heap := h', toks := tk' }) :
    wpAny (model prog w) (callerA.deeper (envOfC "law" scope L f₀ cd)) (execs (t3 :: t4 :: t5 :: t6 :: t7 :: t8 :: t9 :: []) (envOfC "law" scope L f₀ cd)) Q E s := by
  obtain ⟨sts, o0, o1, o2', o3', o4, V, hst, hO⟩ := vec_named h5 hk
  have ht1 : 1 ≤ s.toks := Nat.le_trans (hpt.eq pt0 (.head _)).1 (Nat.le_trans (Nat.le_of_lt (hpt.eq pt0 (.head _)).2) hT)
  refine law_u hS hBd B X T F N d5 aI a5 a7 a2 l0 lI hC1 hC2 TB1 TB2 hLN hi h5 htl ht1 ⟨hO b⟩ ⟨V⟩ hPE ?_
  intro h' tk' ps' ps2' Z' OL ov no F' N' sub aI' a5' a7' a2' TB1' TB2' hOL io to le
  refine law_v hS hBd B X T F' N' d5 (sub _ hM) (sub _ hSY) (sub _ hc3) d3 (sub _ hNB) iav (sub _ hLN) hi h5 hOL io (fun a t h => Nat.le_trans hT (to a t h)) r0 hps hpt ⟨V⟩ ⟨hst⟩ hPE ?_
  intro h'' tk'' m' Sm F'' N'' le'
  exact hret h'' tk'' m' ps' ps2' Z' Sm F'' N'' sub aI' a5' a7' a2' TB1' TB2' (Nat.le_trans le le')
theorem law_turn {prog : Program} {w : World} {loose : List Str} {mean : ExcName → Option Value} {mg mb : Str → Option Value} {g : Heap} {L : Nat} {f₀ : Addr} {cd : Value} {scope : Scope} {t0 t1 t2 t3 t4 t5 t6 t7 t8 t9 : Stmt} {s : Shared} {l : Addr} {Q : Flow → Shared → Prop} {E : Value → Shared → Prop}
    {Z : List (Addr × Obj)} {MS SY NB fa za W : Addr} {o2 o3 o5 : Obj} {v5 : Option Value} {c0 c1 cw cf cz nb : Nat} {ps ps2 : Array Value} {av fv zv : List Value} {f zz : Nat} {M w0 w1 w2 w3 w4 : Int} {Mt : Tok} {wt0 wt1 wt2 wt3 wt4 : Nat} {r : Int} {st0 st1 st2 st3 st4 : Tok} {p0 p1 p2 p3 p4 p5 : Int} {pt0 pt1 pt2 pt3 pt4 pt5 pt6 TT : Nat}
    {I : Addr} {oI : Obj} {z : Str → Option Value} (b : Bool) (hS : fnScope w.params 213 = some scope) (hBd : lawTurn w.params = t0 :: t1 :: t2 :: t3 :: t4 :: t5 :: t6 :: t7 :: t8 :: t9 :: [])
    (B : Below callerA g [] g) (X : (hd.heap_39 w.params).In g) (T : Top topProg loose mean mg mb g) (F : Fr g L s.heap (fun y => if y = "behind" then some (.bool b) else if turnS.contains y then z y else if y = "numbers" then some (.ref NB) else if y = "message" then some (.ref MS) else if y = "steepest" then some (.ref za) else if y = "flattest" then some (.ref fa) else if y = "least" then some (.int M Mt) else if y = "script" then some (.ref l) else none))
    (N : News g L s.heap ((I, oI) :: ((L + 1 + 1 + 1 + 1 + 1 : Nat), o5) :: (177, tabObj ps2) :: (172, tabObj ps) :: Z)) (aI : ∀ p ∈ Z, @Ne Nat p.1 I) (a5 : ∀ p ∈ Z, @Ne Nat p.1 (L + 1 + 1 + 1 + 1 + 1 : Nat)) (a7 : ∀ p ∈ Z, @Ne Nat p.1 177) (a2 : ∀ p ∈ Z, @Ne Nat p.1 172) (l0 : (177 : Nat) < L ∧ (172 : Nat) < L) (lI : (L + 1 + 1 + 1 + 1 + 1 : Nat) < I)
    (TB1 : TabIn "_law_order.<locals>.<lambda>" ps Z) (TB2 : TabIn "_law_firsts.<locals>.<lambda>" ps2 Z) (d5 : o5.data = .cell v5) (hC1 : CodeHd g 181 177) (hC2 : CodeHd g 174 172)
    (hW : (W, listOf (List.toArray [.int w0 wt0, .int w1 wt1, .int w2 wt2, .int w3 wt3, .int w4 wt4]) cw) ∈ Z) (hc2 : ((L + 1 + 1 : Nat), o2) ∈ Z) (d2 : o2.data = .cell (some (.ref W))) (hf : (fa, listOf (List.toArray fv) cf) ∈ Z) (hz : (za, listOf (List.toArray zv) cz) ∈ Z)
    (hM : (MS, listOf (List.toArray [Value.int p0 pt0, .int p1 pt1, .int p2 pt2, .int p3 pt3, .int p4 pt4, .int p5 pt5, .int 0 pt6]) c0) ∈ Z) (hSY : (SY, listOf (List.toArray [.int 0 st0, .int (r + 7) st1, .int (r + 8) st2, .int (r + 9) st3, .int (r + 10) st4]) c1) ∈ Z) (hc3 : ((L + 1 + 1 + 1 : Nat), o3) ∈ Z) (d3 : o3.data = .cell (some (.ref SY))) (hNB : (NB, listOf (List.toArray av) nb) ∈ Z) (iav : IntsAre av [r + 6 + p0, r + 6 + p1, r + 6 + p2, r + 6 + p3, r + 6 + p4, r + 6 + p5])
    (hP : Sealed (PreOk fv zv f zz M w0 w1 w2 w3 w4 r p0 p1 p2 p3 p4 p5 pt0 pt1 pt2 pt3 pt4 pt5 pt6 TT)) (hT : TT ≤ s.toks)
    (hPE : PassesOwn (model prog w) (callerA.deeper (envOfC "law" scope L f₀ cd)) (envOfC "law" scope L f₀ cd) E)
    (hret : ∀ (h' : Heap) (tk' : Nat) (m' : Str → Option Value) (o5' : Obj) (v5' : Option Value) (ps' ps2' : Array Value) (Z' : List (Addr × Obj)), Same turnS (fun y => if y = "numbers" then some (.ref NB) else if y = "message" then some (.ref MS) else if y = "steepest" then some (.ref za) else if y = "flattest" then some (.ref fa) else if y = "least" then some (.int M Mt) else if y = "script" then some (.ref l) else none) m' → Fr g L h' m' → News g L h' ((I, oI) :: ((L + 1 + 1 + 1 + 1 + 1 : Nat), o5') :: (177, tabObj ps2') :: (172, tabObj ps') :: Z') → o5'.data = .cell v5' → (∀ p ∈ Z, p ∈ Z') → (∀ p ∈ Z', @Ne Nat p.1 I) → (∀ p ∈ Z', @Ne Nat p.1 (L + 1 + 1 + 1 + 1 + 1 : Nat)) → (∀ p ∈ Z', @Ne Nat p.1 177) → (∀ p ∈ Z', @Ne Nat p.1 172) → TabIn "_law_order.<locals>.<lambda>" ps' Z' → TabIn "_law_firsts.<locals>.<lambda>" ps2' Z' → s.toks ≤ tk' → Q .next { s with heap := h', toks := tk' }) :
    wpAny (model prog w) (callerA.deeper (envOfC "law" scope L f₀ cd)) (execs (t0 :: t1 :: t2 :: t3 :: t4 :: t5 :: t6 :: t7 :: t8 :: t9 :: []) (envOfC "law" scope L f₀ cd)) Q E s := by
  have h5 := lens_length b [w0, w1, w2, w3, w4]
  have hK := Sealed.mk (cost_ok hP.eq b)
  cases b
  case true =>
    refine law_tR hS hBd B X T F N d5 aI a5 a7 a2 l0 lI hW hc2 d2 hf hz hP.eq.fi hP.eq.zi hK hPE ?_
    intro h' tk' o5' LN lv cn F' N' d5' nI n5 n7 n2 hi htl le
    refine law_uv hS hBd B X T F' N' (List.forall_mem_cons.mpr ⟨nI, aI⟩) (List.forall_mem_cons.mpr ⟨n5, a5⟩) (List.forall_mem_cons.mpr ⟨n7, a7⟩) (List.forall_mem_cons.mpr ⟨n2, a2⟩) l0 lI (TB1.mono fun p hp => .tail _ hp) (TB2.mono fun p hp => .tail _ hp) d5' hC1 hC2 (.tail _ hM) (.tail _ hSY) (.tail _ hc3) d3 (.tail _ hNB) iav (.head _) hi h5 htl hK.eq.kind hP.eq.r0 ⟨hP.eq.ps⟩ ⟨hP.eq.ts⟩ (Nat.le_trans hT le) hPE ?_
    intro h'' tk'' m' ps' ps2' Z' Sm F'' N'' sub aI' a5' a7' a2' TB1' TB2' le'
    exact hret h'' tk'' m' o5' _ ps' ps2' Z' Sm F'' N'' d5' (fun p hp => sub p (.tail _ hp)) aI' a5' a7' a2' TB1' TB2' (Nat.le_trans le le')
  case false =>
    refine law_tL hS hBd B X T F N d5 aI a5 a7 a2 l0 lI hW hc2 d2 hf hz hP.eq.fi hP.eq.zi hK hPE ?_
    intro h' tk' o5' LN lv cn F' N' d5' nI n5 n7 n2 hi htl le
    refine law_uv hS hBd B X T F' N' (List.forall_mem_cons.mpr ⟨nI, aI⟩) (List.forall_mem_cons.mpr ⟨n5, a5⟩) (List.forall_mem_cons.mpr ⟨n7, a7⟩) (List.forall_mem_cons.mpr ⟨n2, a2⟩) l0 lI (TB1.mono fun p hp => .tail _ hp) (TB2.mono fun p hp => .tail _ hp) d5' hC1 hC2 (.tail _ hM) (.tail _ hSY) (.tail _ hc3) d3 (.tail _ hNB) iav (.head _) hi h5 htl hK.eq.kind hP.eq.r0 ⟨hP.eq.ps⟩ ⟨hP.eq.ts⟩ (Nat.le_trans hT le) hPE ?_
    intro h'' tk'' m' ps' ps2' Z' Sm F'' N'' sub aI' a5' a7' a2' TB1' TB2' le'
    exact hret h'' tk'' m' o5' _ ps' ps2' Z' Sm F'' N'' d5' (fun p hp => sub p (.tail _ hp)) aI' a5' a7' a2' TB1' TB2' (Nat.le_trans le le')

end
section
theorem words_lawX : True := by
  k_with_none
  (k_with "CJ" => (with_reducible first | assumption | exact cj0 ‹_› | exact cj1 ‹_› | exact cl1 ‹_› | exact cj2 ‹_› | exact cl2 ‹_› | exact cj3 ‹_› | exact cl3 ‹_› | exact cj4 ‹_› | exact cl4 ‹_› | exact cj5 ‹_› | exact cl5 ‹_› | exact cj6 ‹_› | exact cl6 ‹_› | exact cj7 ‹_› | exact cl7 ‹_› | exact cj8 ‹_› | exact cl8 ‹_› | exact cj9 ‹_› | exact cl9 ‹_› | exact cj10 ‹_› | exact cl10 ‹_› | exact cj11 ‹_› | exact cl11 ‹_› | exact cj12 ‹_› | exact cl12 ‹_›))
  (k_with "k_ne" => (((refine neN ?_); (try dsimp only); first | exact Nat.ne_of_gt (by k_extra "CJ") | exact Nat.ne_of_lt (by k_extra "CJ") | k_extra "CJ" | exact Ne.symm (by k_extra "CJ"))))
  (k_with "ktr_room" => (first | exact rm0 ‹_› | exact rm1 ‹_› rfl | exact rm2 ‹_› rfl | exact rm3 ‹_› rfl))
  (k_with "ktr_units" => (first | exact rm0 ‹_› | exact rm1 ‹_› rfl | exact rm2 ‹_› rfl | exact rm3 ‹_› rfl))
  (k_with "k_mem" => (first | exact List.Mem.head _ | (refine' List.Mem.tail _ ?_; k_mem) | (show (_ : Addr × Obj) ∈ (_ : List (Addr × Obj)); with_reducible assumption)))
  (k_with "callWith ref" => ((k_here; k_dflt (first | (refine' callWith_K ?zzk1 ?zzk2 ?_; (case zzk1 => k_asm); (case zzk2 => k_is); k_whole) | (refine' callWith_KW ?zzk1 ?zzk2 ?zzk3 ?_; (case zzk1 => k_asm); (case zzk2 => k_is); (case zzk3 => exact rfl); k_whole)))))
  (k_with "call builtin:len" => ((k_here; (with_reducible show wpAny _ _ (call (Value.builtin "len") [Value.ref _]) _ _ _); k_dflt (refine' my_len ?zzk1 ?zzk2 ?zzk3 ?_; (case zzk1 => k_asm); (case zzk2 => k_mem); (case zzk3 => first | assumption | omega); k_whole))))
  (k_with "callWith ref" => ((k_here; k_dflt (refine' callWith_Fn1 ?zzkf ?_; (case zzkf => with_reducible assumption); k_whole))))
  (k_with "And" => (((with_reducible show IsFn _ _ ∧ _); refine ⟨KeyFn.get (by with_reducible assumption) (by k_in) (by k_asm), ?_⟩; try dsimp only [List.nil_append, List.cons_append])))
  (k_with "CompEnd" => ((k_dflt (refine' compEnd_same ?zzF ?zzN ?zzoff ?zzsrc ?_; (case zzF => k_asm); (case zzN => k_asm); (case zzoff => first | assumption | ((simp only [LCg.Off3, and_true]); first | done | assumption)); (case zzsrc => lcg_src)))))
  (k_with "k_all" => (first | (with_reducible assumption) | exact List.forall_mem_nil _ | (refine' List.forall_mem_cons.mpr ⟨?zzka, ?zzkb⟩; (case zzka => k_ne); (case zzkb => k_all))))
  (k_with "CompSrc" => ((k_here; k_dflt (refine KeepSrc.out ?_))))
  (k_with "binaryOp Pow int int" => ((k_here; (with_reducible refine pow_int_small ?zzkb1 ?zzkb2 ?zzkb3 ?_); (case zzkb1 => omega); (case zzkb2 => omega); (case zzkb3 => decide))))
  (k_with "binaryOp FloorDiv int int" => ((k_here; (with_reducible refine floordiv_int ?zzkb1 ?_ (Or.inl (PyProof.noPylong_small ?zzkb2))); (case zzkb1 => exact pow4_ne _); (case zzkb2 => exact pow4_small (by assumption)))))
  (k_with "eval ListComp" => ((k_here; k_dflt (first
  | ((with_reducible show wpAny _ _ (eval (PySem.Expr.ListComp (PySem.Expr.BinOp _ _ (PySem.Expr.Constant _ _ _) _) _ _ _) _) _ _ _); (rename Fr _ _ _ _ => lFt); (refine ListComp_tok (h₀ := ghostIs lFt) (L := frameIs lFt) (m := localsIs lFt) (by with_unfolding_all rfl) (by decide) (by rfl) (by decide) (by rfl) ?_); (try dsimp only [ghostIs, frameIs, localsIs]))
  | ((with_reducible show wpAny _ _ (eval (PySem.Expr.ListComp _ [⟨PySem.Expr.Name _ _, _, _, _⟩] _ _) _) _ _ _); refine LCg.ListComp_U (F₀ := by k_asm) (by with_unfolding_all rfl) (by decide) (by rfl) (by decide) (by rfl) ?_)))))
  (k_with "execs cons" => (((with_reducible refine execs_grow ?_); try dsimp only)))
  (k_with "Grown" => ((refine Grown.intro fun hg9 => ?_; (try dsimp only at hg9))))
  exact True.intro
/-- the two turns' drawn values -/
abbrev bools : List Value := [.bool true, .bool false]
/-- what stands between the turns -/
def TurJ (c5 : Addr) (Z ns : List (Addr × Obj)) : Prop :=
  ∃ (o5 : Obj) (v5 : Option Value) (ps ps2 : Array Value) (Z' : List (Addr × Obj)), ns = (c5, o5) :: (177, tabObj ps2) :: (172, tabObj ps) :: Z' ∧ o5.data = .cell v5 ∧ (∀ p ∈ Z, p ∈ Z') ∧ (∀ p ∈ Z', @Ne Nat p.1 c5) ∧ (∀ p ∈ Z', @Ne Nat p.1 177) ∧ (∀ p ∈ Z', @Ne Nat p.1 172) ∧ TabIn "_law_order.<locals>.<lambda>" ps Z' ∧ TabIn "_law_firsts.<locals>.<lambda>" ps2 Z'
theorem turn_at {prog : Program} {w : World} {A : Around} {E : Value → Shared → Prop} {s : Shared} {env : Env} {h₀ : Heap} {target : PySem.Expr} {body orelse : List Stmt} {Q : Flow → Shared → Prop} {l c5 : Addr} {o5 : Obj} {v5 : Option Value} {n : Nat} {ps ps2 : Array Value} {Z : List (Addr × Obj)} {m : Str → Option Value}
    (hh : A.handled = none) (F : Fr h₀ env.locals s.heap m) (N : News h₀ env.locals s.heap ((c5, o5) :: (177, tabObj ps2) :: (172, tabObj ps) :: Z)) (d5 : o5.data = .cell v5) (hl : (l, listOf bools.toArray n) ∈ Z)
    (a5 : ∀ p ∈ Z, @Ne Nat p.1 c5) (a7 : ∀ p ∈ Z, @Ne Nat p.1 177) (a2 : ∀ p ∈ Z, @Ne Nat p.1 172) (TB1 : TabIn "_law_order.<locals>.<lambda>" ps Z) (TB2 : TabIn "_law_firsts.<locals>.<lambda>" ps2 Z)
    (step : ∀ (b : Bool) (I : Addr) (oI : Obj) (z : Str → Option Value) (h₁ : Heap) (tk₁ : Nat) (o5 : Obj) (v5 : Option Value) (ps ps2 : Array Value) (Z' : List (Addr × Obj)), s.toks ≤ tk₁ → o5.data = .cell v5 → (∀ p ∈ Z, p ∈ Z') → (∀ p ∈ Z', @Ne Nat p.1 I) → (∀ p ∈ Z', @Ne Nat p.1 c5) → (∀ p ∈ Z', @Ne Nat p.1 177) → (∀ p ∈ Z', @Ne Nat p.1 172) → @LT.lt Nat _ c5 I →
      TabIn "_law_order.<locals>.<lambda>" ps Z' → TabIn "_law_firsts.<locals>.<lambda>" ps2 Z' →
      Fr h₀ env.locals h₁ (fun y => if turnS.contains y then z y else m y) → News h₀ env.locals h₁ ((I, oI) :: (c5, o5) :: (177, tabObj ps2) :: (172, tabObj ps) :: Z') →
      wpAny (model prog w) A (assign target env (.bool b)) (fun _ s₃ => wpAny (model prog w) A (execs body env) (StepT h₀ env.locals [I] [(I, oI)] [(l, listOf bools.toArray n)] (fun _ m' ns => Same turnS m m' ∧ TurJ c5 Z ns) { s with heap := h₁, toks := tk₁ } Q) E s₃) E { s with heap := h₁, toks := tk₁ })
    (fin : ∀ (h' : Heap) (tk : Nat) (m' : Str → Option Value) (ps ps2 : Array Value) (Z' : List (Addr × Obj)), Fr h₀ env.locals h' m' → News h₀ env.locals h' ((177, tabObj ps2) :: (172, tabObj ps) :: Z') → wpAny (model prog w) A (execs orelse env) Q E { s with heap := h', toks := tk })
    (hE : PassesOwn (model prog w) A env E := by passes_own) : LoopAt prog w A env target body orelse Q E (.ref l) s := by
  refine LoopAt.list (us := bools) (fun _ _ m' ns => Same turnS m m' ∧ TurJ c5 Z ns) hh F N (.tail _ (.tail _ (.tail _ hl))) ⟨Same.refl _ _, o5, v5, ps, ps2, Z, rfl, d5, fun _ h => h, a5, a7, a2, TB1, TB2⟩ ?_ ?_ (fun _ _ _ _ _ h _ => h) hE
  · rintro i v I oI m₁ ns h₁ tk₁ hx ⟨hS, o5, v5, ps, ps2, Z', rfl, e5, sub, b5, b7, b2, T1, T2⟩ hle _ hI hlt F₁ N₁
    obtain ⟨b, rfl⟩ : ∃ b : Bool, v = .bool b := by
      match i, hx with
      | 0, hx => exact ⟨true, (Option.some.inj hx).symm⟩
      | 1, hx => exact ⟨false, (Option.some.inj hx).symm⟩
      | k + 2, hx => exact nomatch hx
    exact step b I oI m₁ h₁ tk₁ o5 v5 ps ps2 Z' hle e5 sub (fun p hp => hI p (.tail _ (.tail _ (.tail _ hp)))) b5 b7 b2 (hlt _ (.head _)) T1 T2 (Fr.turn hS F₁) N₁
  · rintro h' tk m' ns ⟨hS, o5, v5, ps, ps2, Z', rfl, e5, sub, b5, b7, b2, T1, T2⟩ _ _ F' N'
    exact fin h' tk m' ps ps2 Z' F' (news_sub N' fun p hp => .tail _ hp)
theorem rot4 {h₀ h : Heap} {L : Addr} {e0 e1 e2 e3 : Addr × Obj} {Z : List (Addr × Obj)} (N : News h₀ L h (e0 :: e1 :: e2 :: e3 :: Z)) : News h₀ L h (e1 :: e2 :: e3 :: e0 :: Z) := news_sub N fun p hp => by
  simp only [List.mem_cons] at hp ⊢
  rcases hp with h | h | h | h | h <;> simp [h]
theorem tur_end {h₀ h' : Heap} {L : Addr} {l c5 I : Addr} {oI o5 lo : Obj} {v5 : Option Value} {tk : Nat} {ps ps2 : Array Value} {Z Z' : List (Addr × Obj)} {m m' : Str → Option Value} {s₁ : Shared} {Q : Flow → Shared → Prop}
    (Sm : Same turnS m m') (F : Fr h₀ L h' m') (N : News h₀ L h' ((I, oI) :: (c5, o5) :: (177, tabObj ps2) :: (172, tabObj ps) :: Z')) (d5 : o5.data = .cell v5) (sub : ∀ p ∈ Z, p ∈ Z') (hl : (l, lo) ∈ Z) (aI : ∀ p ∈ Z', @Ne Nat p.1 I) (a5 : ∀ p ∈ Z', @Ne Nat p.1 c5) (a7 : ∀ p ∈ Z', @Ne Nat p.1 177) (a2 : ∀ p ∈ Z', @Ne Nat p.1 172)
    (n5 : @LT.lt Nat _ c5 I) (n7 : @LT.lt Nat _ 177 I) (n2 : @LT.lt Nat _ 172 I) (TB1 : TabIn "_law_order.<locals>.<lambda>" ps Z') (TB2 : TabIn "_law_firsts.<locals>.<lambda>" ps2 Z') :
    StepT h₀ L [I] [(I, oI)] [(l, lo)] (fun _ m' ns => Same turnS m m' ∧ TurJ c5 Z ns) s₁ Q .next { s₁ with heap := h', toks := tk } := by
  refine StepT.next (ns := (c5, o5) :: (177, tabObj ps2) :: (172, tabObj ps) :: Z') F N ?_ (fun p hp => by rw [List.mem_singleton.mp hp]; exact .tail _ (.tail _ (.tail _ (sub _ hl)))) fun _ => ⟨Sm, o5, v5, ps, ps2, Z', rfl, d5, sub, a5, a7, a2, TB1, TB2⟩
  intro p hp q
  have q := List.mem_singleton.mp q
  rcases List.mem_cons.mp hp with rfl | hp
  · exact Nat.ne_of_lt n5 q
  rcases List.mem_cons.mp hp with rfl | hp
  · exact Nat.ne_of_lt n7 q
  rcases List.mem_cons.mp hp with rfl | hp
  · exact Nat.ne_of_lt n2 q
  exact aI p hp q
theorem words_lawX_1 : True := by
  (k_with "exec For Name List cons nil" => ((k_here; k_dflt (refine' For_at ?_); k_whole)))
  exact True.intro
theorem law_for {prog : Program} {w : World} {loose : List Str} {mean : ExcName → Option Value} {mg mb : Str → Option Value} {g : Heap} {L : Nat} {f₀ : Addr} {cd : Value} {scope : Scope} {s0 s1 s2 s3 s4 s5 s6 s7 s8 s9 t0 t1 t2 t3 t4 t5 t6 t7 t8 t9 : Stmt} {s : Shared} {l : Addr} {Q : Flow → Shared → Prop} {E : Value → Shared → Prop}
    {Z : List (Addr × Obj)} {MS SY NB fa za W : Addr} {o2 o3 o5 : Obj} {v5 : Option Value} {c0 c1 cw cf cz nb : Nat} {ps ps2 : Array Value} {av fv zv : List Value} {f zz : Nat} {M w0 w1 w2 w3 w4 : Int} {Mt : Tok} {wt0 wt1 wt2 wt3 wt4 : Nat} {r : Int} {st0 st1 st2 st3 st4 : Tok} {p0 p1 p2 p3 p4 p5 : Int} {pt0 pt1 pt2 pt3 pt4 pt5 pt6 TT : Nat}
    (hS : fnScope w.params 213 = some scope) (hBd : fnBody w.params 213 = s0 :: s1 :: s2 :: s3 :: s4 :: s5 :: s6 :: s7 :: s8 :: s9 :: []) (hTu : lawTurn w.params = t0 :: t1 :: t2 :: t3 :: t4 :: t5 :: t6 :: t7 :: t8 :: t9 :: [])
    (B : Below callerA g [] g) (X : (hd.heap_39 w.params).In g) (T : Top topProg loose mean mg mb g) (F : Fr g L s.heap (fun y => if y = "numbers" then some (.ref NB) else if y = "message" then some (.ref MS) else if y = "steepest" then some (.ref za) else if y = "flattest" then some (.ref fa) else if y = "least" then some (.int M Mt) else if y = "script" then some (.ref l) else none))
    (N : News g L s.heap (((L + 1 + 1 + 1 + 1 + 1 : Nat), o5) :: (177, tabObj ps2) :: (172, tabObj ps) :: Z)) (a5 : ∀ p ∈ Z, @Ne Nat p.1 (L + 1 + 1 + 1 + 1 + 1 : Nat)) (a7 : ∀ p ∈ Z, @Ne Nat p.1 177) (a2 : ∀ p ∈ Z, @Ne Nat p.1 172) (l0 : (177 : Nat) < L ∧ (172 : Nat) < L)
    (TB1 : TabIn "_law_order.<locals>.<lambda>" ps Z) (TB2 : TabIn "_law_firsts.<locals>.<lambda>" ps2 Z) (d5 : o5.data = .cell v5) (hC1 : CodeHd g 181 177) (hC2 : CodeHd g 174 172)
    (hW : (W, listOf (List.toArray [.int w0 wt0, .int w1 wt1, .int w2 wt2, .int w3 wt3, .int w4 wt4]) cw) ∈ Z) (hc2 : ((L + 1 + 1 : Nat), o2) ∈ Z) (d2 : o2.data = .cell (some (.ref W))) (hf : (fa, listOf (List.toArray fv) cf) ∈ Z) (hz : (za, listOf (List.toArray zv) cz) ∈ Z)
    (hM : (MS, listOf (List.toArray [Value.int p0 pt0, .int p1 pt1, .int p2 pt2, .int p3 pt3, .int p4 pt4, .int p5 pt5, .int 0 pt6]) c0) ∈ Z) (hSY : (SY, listOf (List.toArray [.int 0 st0, .int (r + 7) st1, .int (r + 8) st2, .int (r + 9) st3, .int (r + 10) st4]) c1) ∈ Z) (hc3 : ((L + 1 + 1 + 1 : Nat), o3) ∈ Z) (d3 : o3.data = .cell (some (.ref SY))) (hNB : (NB, listOf (List.toArray av) nb) ∈ Z) (iav : IntsAre av [r + 6 + p0, r + 6 + p1, r + 6 + p2, r + 6 + p3, r + 6 + p4, r + 6 + p5])
    (hP : Sealed (PreOk fv zv f zz M w0 w1 w2 w3 w4 r p0 p1 p2 p3 p4 p5 pt0 pt1 pt2 pt3 pt4 pt5 pt6 TT)) (hT : TT ≤ s.toks)
    (hPE : PassesOwn (model prog w) (callerA.deeper (envOfC "law" scope L f₀ cd)) (envOfC "law" scope L f₀ cd) E)
    (hret : ∀ (h' : Heap) (tk' : Nat) (m' : Str → Option Value) (ps' ps2' : Array Value) (Z' : List (Addr × Obj)), Fr g L h' m' → News g L h' ((177, tabObj ps2') :: (172, tabObj ps') :: Z') → Q (.ret (.bool true)) { s with heap := h', toks := tk' }) :
    wpAny (model prog w) (callerA.deeper (envOfC "law" scope L f₀ cd)) (execs (s8 :: s9 :: []) (envOfC "law" scope L f₀ cd)) Q E s := by
  have hS0 := hS
  have hTu0 := hTu
  injection (show some _ = some scope from hS) with e0
  subst e0
  injection (show _ :: _ = s0 :: s1 :: s2 :: s3 :: s4 :: s5 :: s6 :: s7 :: s8 :: s9 :: [] from hBd) with e0 e1
  injection e1 with e1 e2
  injection e2 with e2 e3
  injection e3 with e3 e4
  injection e4 with e4 e5
  injection e5 with e5 e6
  injection e6 with e6 e7
  injection e7 with e7 e8
  injection e8 with e8 e9
  injection e9 with e9 e10
  subst e8 e9
  clear hBd e0 e1 e2 e3 e4 e5 e6 e7 e10
  injection (show _ :: _ = t0 :: t1 :: t2 :: t3 :: t4 :: t5 :: t6 :: t7 :: t8 :: t9 :: [] from hTu) with e0 e1
  injection e1 with e1 e2
  injection e2 with e2 e3
  injection e3 with e3 e4
  injection e4 with e4 e5
  injection e5 with e5 e6
  injection e6 with e6 e7
  injection e7 with e7 e8
  injection e8 with e8 e9
  injection e9 with e9 e10
  subst e0 e1 e2 e3 e4 e5 e6 e7 e8 e9
  clear hTu e10
  k_with_none
  (k_with "CJ" => (with_reducible first | assumption | exact cj0 ‹_› | exact cj1 ‹_› | exact cl1 ‹_› | exact cj2 ‹_› | exact cl2 ‹_› | exact cj3 ‹_› | exact cl3 ‹_› | exact cj4 ‹_› | exact cl4 ‹_› | exact cj5 ‹_› | exact cl5 ‹_› | exact cj6 ‹_› | exact cl6 ‹_› | exact cj7 ‹_› | exact cl7 ‹_› | exact cj8 ‹_› | exact cl8 ‹_› | exact cj9 ‹_› | exact cl9 ‹_› | exact cj10 ‹_› | exact cl10 ‹_› | exact cj11 ‹_› | exact cl11 ‹_› | exact cj12 ‹_› | exact cl12 ‹_›))
  (k_with "k_ne" => (((refine neN ?_); (try dsimp only); first | exact Nat.ne_of_gt (by k_extra "CJ") | exact Nat.ne_of_lt (by k_extra "CJ") | k_extra "CJ" | exact Ne.symm (by k_extra "CJ"))))
  (k_with "ktr_room" => (first | exact rm0 ‹_› | exact rm1 ‹_› rfl | exact rm2 ‹_› rfl | exact rm3 ‹_› rfl))
  (k_with "ktr_units" => (first | exact rm0 ‹_› | exact rm1 ‹_› rfl | exact rm2 ‹_› rfl | exact rm3 ‹_› rfl))
  (k_with "k_mem" => (first | exact List.Mem.head _ | (refine' List.Mem.tail _ ?_; k_mem) | (show (_ : Addr × Obj) ∈ (_ : List (Addr × Obj)); with_reducible assumption)))
  (k_with "callWith ref" => ((k_here; k_dflt (first | (refine' callWith_K ?zzk1 ?zzk2 ?_; (case zzk1 => k_asm); (case zzk2 => k_is); k_whole) | (refine' callWith_KW ?zzk1 ?zzk2 ?zzk3 ?_; (case zzk1 => k_asm); (case zzk2 => k_is); (case zzk3 => exact rfl); k_whole)))))
  (k_with "call builtin:len" => ((k_here; (with_reducible show wpAny _ _ (call (Value.builtin "len") [Value.ref _]) _ _ _); k_dflt (refine' my_len ?zzk1 ?zzk2 ?zzk3 ?_; (case zzk1 => k_asm); (case zzk2 => k_mem); (case zzk3 => first | assumption | omega); k_whole))))
  (k_with "callWith ref" => ((k_here; k_dflt (refine' callWith_Fn1 ?zzkf ?_; (case zzkf => with_reducible assumption); k_whole))))
  (k_with "And" => (((with_reducible show IsFn _ _ ∧ _); refine ⟨KeyFn.get (by with_reducible assumption) (by k_in) (by k_asm), ?_⟩; try dsimp only [List.nil_append, List.cons_append])))
  (k_with "CompEnd" => ((k_dflt (refine' compEnd_same ?zzF ?zzN ?zzoff ?zzsrc ?_; (case zzF => k_asm); (case zzN => k_asm); (case zzoff => first | assumption | ((simp only [LCg.Off3, and_true]); first | done | assumption)); (case zzsrc => lcg_src)))))
  (k_with "k_all" => (first | (with_reducible assumption) | exact List.forall_mem_nil _ | (refine' List.forall_mem_cons.mpr ⟨?zzka, ?zzkb⟩; (case zzka => k_ne); (case zzkb => k_all))))
  (k_with "CompSrc" => ((k_here; k_dflt (refine KeepSrc.out ?_))))
  (k_with "binaryOp Pow int int" => ((k_here; (with_reducible refine pow_int_small ?zzkb1 ?zzkb2 ?zzkb3 ?_); (case zzkb1 => omega); (case zzkb2 => omega); (case zzkb3 => decide))))
  (k_with "binaryOp FloorDiv int int" => ((k_here; (with_reducible refine floordiv_int ?zzkb1 ?_ (Or.inl (PyProof.noPylong_small ?zzkb2))); (case zzkb1 => exact pow4_ne _); (case zzkb2 => exact pow4_small (by assumption)))))
  (k_with "eval ListComp" => ((k_here; k_dflt (first
  | ((with_reducible show wpAny _ _ (eval (PySem.Expr.ListComp (PySem.Expr.BinOp _ _ (PySem.Expr.Constant _ _ _) _) _ _ _) _) _ _ _); (rename Fr _ _ _ _ => lFt); (refine ListComp_tok (h₀ := ghostIs lFt) (L := frameIs lFt) (m := localsIs lFt) (by with_unfolding_all rfl) (by decide) (by rfl) (by decide) (by rfl) ?_); (try dsimp only [ghostIs, frameIs, localsIs]))
  | ((with_reducible show wpAny _ _ (eval (PySem.Expr.ListComp _ [⟨PySem.Expr.Name _ _, _, _, _⟩] _ _) _) _ _ _); refine LCg.ListComp_U (F₀ := by k_asm) (by with_unfolding_all rfl) (by decide) (by rfl) (by decide) (by rfl) ?_)))))
  (k_with "execs cons" => (((with_reducible refine execs_grow ?_); try dsimp only)))
  (k_with "Grown" => ((refine Grown.intro fun hg9 => ?_; (try dsimp only at hg9))))
  (k_with "exec For Name List cons nil" => ((k_here; k_dflt (refine' For_at ?_); k_whole)))
  (k_with "LoopAt" => ((rename Fr _ _ _ _ => lF'); (rename News _ _ _ _ => lN'); (rename _ ∧ _ ∧ _ ∧ AllLt _ _ => lT'); (refine turn_at rfl lF' (rot4 lN') d5 (.head _) (List.forall_mem_cons.mpr ⟨Nat.ne_of_gt lT'.1, a5⟩) (List.forall_mem_cons.mpr ⟨Nat.ne_of_gt lT'.2.1, a7⟩) (List.forall_mem_cons.mpr ⟨Nat.ne_of_gt lT'.2.2.1, a2⟩) (TB1.mono fun p hp => .tail _ hp) (TB2.mono fun p hp => .tail _ hp) ?step ?fin hPE); (case step => (clear lF' lN' lT'; intro b9 I9 oI9 z9 h9 tk9 o9 v9 ps9 ps29 Z9 hle9 d9 sub9 aI9 a59 a79 a29 lI9 T19 T29 lF9 lN9; (refine PyProof.Rows.assign_Name (storeX_L lF9 lN9 ?_ rfl rfl)); intro h8 lF8 lN8; (refine law_turn b9 hS0 hTu0 B X T lF8 lN8 aI9 a59 a79 a29 l0 lI9 T19 T29 d9 hC1 hC2 (sub9 _ (.tail _ hW)) (sub9 _ (.tail _ hc2)) d2 (sub9 _ (.tail _ hf)) (sub9 _ (.tail _ hz)) (sub9 _ (.tail _ hM)) (sub9 _ (.tail _ hSY)) (sub9 _ (.tail _ hc3)) d3 (sub9 _ (.tail _ hNB)) iav hP (Nat.le_trans hT (Nat.le_trans hle9 (Nat.le_succ _))) hPE ?_); intro h7 tk7 m7 o7 v7 ps7 ps27 Z7 Sm7 F7 N7 d7 sub7 aI7 a57 a77 a27 T17 T27 le7; exact tur_end (s₁ := { s with heap := h9, toks := tk9 }) Sm7 F7 N7 d7 (fun p hp => sub7 p (sub9 p hp)) (.head _) aI7 a57 a77 a27 lI9 (Nat.lt_trans (Nat.lt_of_lt_of_le l0.1 (Nat.le_add_right L 5)) lI9) (Nat.lt_trans (Nat.lt_of_lt_of_le l0.2 (Nat.le_add_right L 5)) lI9) T17 T27)); (case' fin => (intro h9 tk9 m9 ps9 ps29 Z9 lF9 lN9))))
  k_steps
  · exact hret _ _ _ _ _ _ lF9 lN9
theorem law_whole {prog : Program} {w : World} {loose : List Str} {mean : ExcName → Option Value} {mg mb : Str → Option Value} {g : Heap} {L : Nat} {f₀ : Addr} {cd : Value} {scope : Scope} {s0 s1 s2 s3 s4 s5 s6 s7 s8 s9 t0 t1 t2 t3 t4 t5 t6 t7 t8 t9 : Stmt} {s : Shared} {l : Addr} {vs : List Value} {ns : List Int} {o1 o2 o3 o4 o5 : Obj} {v1 v2 v3 v4 v5 : Option Value} {Q : Flow → Shared → Prop} {E : Value → Shared → Prop}
    (hS : fnScope w.params 213 = some scope) (hBd : fnBody w.params 213 = s0 :: s1 :: s2 :: s3 :: s4 :: s5 :: s6 :: s7 :: s8 :: s9 :: []) (hTu : lawTurn w.params = t0 :: t1 :: t2 :: t3 :: t4 :: t5 :: t6 :: t7 :: t8 :: t9 :: [])
    (B : Below callerA g [] g) (X : (hd.heap_39 w.params).In g) (T : Top topProg loose mean mg mb g) (F : Fr g L s.heap (fun z => if z = "script" then some (.ref l) else none))
    (N : News g L s.heap [((L + 1 + 1 + 1 + 1 + 1 : Nat), o5), ((L + 1 + 1 + 1 + 1 : Nat), o4), ((L + 1 + 1 + 1 : Nat), o3), ((L + 1 + 1 : Nat), o2), ((L + 1 : Nat), o1), (177, tabObj #[]), (172, tabObj #[])]) (d1 : o1.data = .cell v1) (d2 : o2.data = .cell v2) (d3 : o3.data = .cell v3) (d4 : o4.data = .cell v4) (d5 : o5.data = .cell v5)
    (hC1 : CodeHd g 181 177) (hC2 : CodeHd g 174 172) (l0 : (177 : Nat) < L ∧ (172 : Nat) < L) (hl : g.IsList l vs.toArray) (hi : IntsAre vs ns) (hn : ns.length < 64)
    (hPE : PassesOwn (model prog w) (callerA.deeper (envOfC "law" scope L f₀ cd)) (envOfC "law" scope L f₀ cd) E)
    (hret : ∀ (h' : Heap) (tk' : Nat) (m' : Str → Option Value) (ps' ps2' : Array Value) (Z' : List (Addr × Obj)), Fr g L h' m' → News g L h' ((177, tabObj ps2') :: (172, tabObj ps') :: Z') → Q (.ret (.bool true)) { s with heap := h', toks := tk' }) :
    wpAny (model prog w) (callerA.deeper (envOfC "law" scope L f₀ cd)) (execs (s0 :: s1 :: s2 :: s3 :: s4 :: s5 :: s6 :: s7 :: s8 :: s9 :: []) (envOfC "law" scope L f₀ cd)) Q E s := by
  refine law_a hS hBd B X T F N d1 d2 d3 d4 d5 hC1 hC2 l0 hl hi hn hPE ?_
  intro h1 tk1 Z MS SY fa za W o2' o3' c0 c1 cw cf cz M Mt fv zv f z w0 w1 w2 w3 w4 wt0 wt1 wt2 wt3 wt4 r st0 st1 st2 st3 st4 p0 p1 p2 p3 p4 p5 pt0 pt1 pt2 pt3 pt4 pt5 pt6 F1 N1 a5 a4 a7 a2 hM hSY hf hz hW hc3 hc2 e2 e3 hP
  refine law_b hS hBd B X T F1 N1 d4 a5 a4 a7 a2 l0 hM hSY hc3 e3 hP.eq.r0 hP.eq.r1 ⟨hP.eq.ps⟩ hPE ?_
  intro h2 tk2 Z2 NB av cn F2 N2 sub b5 b7 b2 hNB iav le
  refine law_for hS hBd hTu B X T F2 N2 b5 b7 b2 l0 (TabIn.nil _ _) (TabIn.nil _ _) d5 hC1 hC2 (sub _ hW) (sub _ hc2) e2 (sub _ hf) (sub _ hz) (sub _ hM) (sub _ hSY) (sub _ hc3) e3 hNB iav hP le hPE ?_
  intro h3 tk3 m3 ps3 ps23 Z3 F3 N3
  exact hret h3 tk3 m3 ps3 ps23 Z3 F3 N3

end
/-- the top in one run -/
theorem left_one {p q : Program} {loose : List Str} {Xt : Shared → Bool} {α : Type} {Yf : Shared → α} {Ya : World → α} {N M m₀ k₀ : Nat} {H₀ : Params → Heap} {gs₀ : Array GenState} {d₀ : Drawn} {ann : Option Value}
    (open_ : ∀ w : World, (fencedOpening treeTable p w N).map (fun s => (s.heap, s.gens, s.drawn, s.toks)) = some (H₀ w.params, gs₀, d₀, k₀))
    (size : ∀ w : World, ((H₀ w.params).isNs mainGlobals && gs₀.size == 0, (H₀ w.params).objs.size, (H₀ w.params).nsMap mainGlobals "__annotations__") = (true, m₀, ann))
    (le : Nat.ble M N = true)
    (one : ∀ w : World, (fun os => (topRun treeTable p w m₀ ann M ⟨H₀ w.params, gs₀, d₀, k₀, os⟩ (topStub p)).map fun s => (staticsOk (importedModules p.main.body) (H₀ w.params) s.heap && namesBound p s.heap && gensDone s && laidKept (H₀ w.params) s.heap, openSeen q loose (importedModules p.main.body) Xt true s, Yf s)) = fun _ => some (true, openGood q loose, Ya w)) : LeftO p q loose Xt Yf Ya N := fun w => by
  obtain ⟨⟨h, gs, d, k, os⟩, e, e'⟩ := Option.map_eq_some_iff.mp (open_ w)
  obtain ⟨rfl, rfl, rfl, rfl⟩ : h = H₀ w.params ∧ gs = gs₀ ∧ d = d₀ ∧ k = k₀ := by simpa using e'
  obtain ⟨z1, z2, z3⟩ : _ ∧ _ ∧ _ := by simpa only [Prod.mk.injEq] using size w
  obtain ⟨s₁, r, l⟩ := Option.map_eq_some_iff.mp (congrFun (one w) os)
  obtain ⟨l1, l2⟩ := Prod.mk.inj l
  obtain ⟨l2, l3⟩ := Prod.mk.inj l2
  have r := topRun_mono (N - M) _ _ _ _ r
  rw [show M + (N - M) = N by have := Nat.le_of_ble_eq_true le; omega] at r
  have t : topFrom treeTable p w N ⟨H₀ w.params, gs, d, k, os⟩ = some s₁ := by
    unfold topFrom
    dsimp only
    rw [z1, z2, z3, r]
    show (match staticsOk (importedModules p.main.body) (H₀ w.params) s₁.heap && namesBound p s₁.heap && gensDone s₁ && laidKept (H₀ w.params) s₁.heap with | true => _ | false => _) = _
    rw [l1]
  unfold openEnds
  rw [e]
  show (topFrom treeTable p w N ⟨H₀ w.params, gs, d, k, os⟩).map _ = _
  rw [t]
  exact congrArg some (Prod.ext l2 l3)
noncomputable abbrev hLoose : List Str := PySem.Challenge.pw_uk0004_01.boundNames.filter fun n => !(n == Str.ofString "law")
theorem hKe (P : Params) : hKas = (hd.heap_39 P).map (·.1) := by kernel_rfl
abbrev hView : Program := view PySem.Challenge.pw_uk0004_01 [81]
theorem size0 (w : World) : ((boot_heap w.params).isNs mainGlobals && (Array.mk [] : Array GenState).size == 0, (boot_heap w.params).objs.size, (boot_heap w.params).nsMap mainGlobals "__annotations__") = (true, 11, some (Value.ref 6)) := by kernel_rfl
theorem open0 : ∀ w : World, (fencedOpening treeTable PySem.Challenge.pw_uk0004_01 w 4828).map (fun s => (s.heap, s.gens, s.drawn, s.toks)) = some (boot_heap w.params, Array.mk [], boot_drawn, boot_toks) :=
  boot_open (by kernel_rfl) (by decide) (fun s => by kernel_rfl)
noncomputable abbrev hXt : Shared → Bool := fun s => xlAt hView [] s && recOk PySem.Challenge.rw_uk0004_01.row.records s
theorem oneF (w : World) : (fun os => (PySem.W.Fast.tw14082659384304107361 PySem.W.Fast.tw14364793385576792824 PySem.Challenge.pw_uk0004_01 (w.withFollow "special-get-raises" false) 11 (some (Value.ref 6)) 2600 ⟨boot_heap (w.withFollow "special-get-raises" false).params, Array.mk [], boot_drawn, boot_toks, os⟩ (topStub PySem.Challenge.pw_uk0004_01)).map fun s => (staticsOk (PySem.W.Fast.tw5923862056798008813 PySem.Challenge.pw_uk0004_01.main.body) (boot_heap (w.withFollow "special-get-raises" false).params) s.heap && namesBound PySem.Challenge.pw_uk0004_01 s.heap && gensDone s && laidKept (boot_heap (w.withFollow "special-get-raises" false).params) s.heap, PySem.W.Fast.tw4187177175401517315 hView hLoose (PySem.W.Fast.tw5923862056798008813 PySem.Challenge.pw_uk0004_01.main.body) hXt true s, (kmHook hd.heap_39 hKas hKe [177, 172]).obs s)) = fun _ => some (true, openGood hView hLoose, (kmHook hd.heap_39 hKas hKe [177, 172]).val (w.withFollow "special-get-raises" false)) := by kernel_rfl
theorem oneT (w : World) : (fun os => (PySem.W.Fast.tw14082659384304107361 PySem.W.Fast.tw14364793385576792824 PySem.Challenge.pw_uk0004_01 (w.withFollow "special-get-raises" true) 11 (some (Value.ref 6)) 2600 ⟨boot_heap (w.withFollow "special-get-raises" true).params, Array.mk [], boot_drawn, boot_toks, os⟩ (topStub PySem.Challenge.pw_uk0004_01)).map fun s => (staticsOk (PySem.W.Fast.tw5923862056798008813 PySem.Challenge.pw_uk0004_01.main.body) (boot_heap (w.withFollow "special-get-raises" true).params) s.heap && namesBound PySem.Challenge.pw_uk0004_01 s.heap && gensDone s && laidKept (boot_heap (w.withFollow "special-get-raises" true).params) s.heap, PySem.W.Fast.tw4187177175401517315 hView hLoose (PySem.W.Fast.tw5923862056798008813 PySem.Challenge.pw_uk0004_01.main.body) hXt true s, (kmHook hd.heap_39 hKas hKe [177, 172]).obs s)) = fun _ => some (true, openGood hView hLoose, (kmHook hd.heap_39 hKas hKe [177, 172]).val (w.withFollow "special-get-raises" true)) := by kernel_rfl
theorem left0 : LeftO PySem.Challenge.rw_uk0004_01.row.prog hView hLoose hXt (kmHook hd.heap_39 hKas hKe [177, 172]).obs (kmHook hd.heap_39 hKas hKe [177, 172]).val 4828 := by
  refine left_one (p := PySem.Challenge.pw_uk0004_01) (M := 2600) open0 size0 (by decide) (byRow2 "special-get-raises" (fun w => ?_) fun w => ?_)
  · rw [PySem.W.Fast.te14082659384304107361, PySem.W.Fast.te14364793385576792824, PySem.W.Fast.te5923862056798008813, PySem.W.Fast.te4187177175401517315]
    exact oneF w
  · rw [PySem.W.Fast.te14082659384304107361, PySem.W.Fast.te14364793385576792824, PySem.W.Fast.te5923862056798008813, PySem.W.Fast.te4187177175401517315]
    exact oneT w
theorem said0 : PySem.Challenge.rw_uk0004_01.wellSaid = true := by
  rw [PySem.W.Fast.te9446332074065402090]
  kernel_rfl
end Mine
theorem PySem.Challenge.cw_uk0004_01_holds : PySem.Challenge.rw_uk0004_01.Holds := by
  w_on
  refine holds_law Mine.said0 fun said => ?_
  refine PySem.W.holds_open (q := Mine.hView) (loose := Mine.hLoose) (Xt := Mine.hXt) (XP := XL Mine.hView []) (Yf := (kmHook Mine.hd.heap_39 Mine.hKas Mine.hKe [177, 172]).obs) (Ya := (kmHook Mine.hd.heap_39 Mine.hKas Mine.hKe [177, 172]).val) (YP := (kmHook Mine.hd.heap_39 Mine.hKas Mine.hKe [177, 172]).says) (N := 4828) Mine.left0 ((kmHook Mine.hd.heap_39 Mine.hKas Mine.hKe [177, 172]).of) ((kmHook Mine.hd.heap_39 Mine.hKas Mine.hKe [177, 172]).keeps) (fun s e => xl_of s (Bool.and_eq_true_iff.mp e).1) XL.keeps (by rfl) (by rfl) (by rfl) (fun s e => recFacts_of (Bool.and_eq_true_iff.mp e).2) ?h4 ?h5 ?h6 ⟨rfl, rfl, rfl, rfl, rfl, ?h7⟩ ?hw ?hc
  case h4 => exact rfl
  case h5 => assumption
  case h6 => decide +kernel
  case h7 => decide +kernel
  case hw => w_witness2
  w_strict k_go0
  (all_goals try k_fold)
  (try dsimp only)
  rename Fr _ _ _ _ => lF
  rename News _ _ _ _ => lN
  rename Below _ _ _ _ => lB
  rename (Mine.hd.heap_39 _).In (ghostOf _ _) => lX
  rename Top _ _ _ _ _ (ghostOf _ _) => lT
  rename (ghostOf _ _).IsList _ _ => lL
  rename IntsAre _ _ => lI
  rename CodeHd _ (181, 177).fst _ => lC1
  rename CodeHd _ (174, 172).fst _ => lC2
  rename _ ∧ _ => lO
  refine' Mine.law_whole ?hS ?hB ?hT lB lX lT lF lN ?d1 ?d2 ?d3 ?d4 ?d5 lC1 lC2 lO lL lI ?hn ?hP ?ret
  case hS => exact rfl
  case hB => exact rfl
  case hT => exact rfl
  case d1 => assumption
  case d2 => assumption
  case d3 => assumption
  case d4 => assumption
  case d5 => assumption
  case hn => omega
  case hP => passes_own
  case ret =>
    intro h' tk' m' ps' ps2' Z' F N
    dsimp only
    exact ⟨goodW_bool F (by assumption) (fun _ => rfl) (by wrow_post), .of N (.head _), .of N (.tail _ (.head _)), True.intro⟩
